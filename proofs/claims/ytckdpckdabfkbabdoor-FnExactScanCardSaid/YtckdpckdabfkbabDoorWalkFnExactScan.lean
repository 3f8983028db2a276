/- laws.FnExactScan: the walk. -/
import Derived.Test.YtckdpckdabfkbabDoorSkip
import Derived.Test.YtckdpckdabfkbabDoorSents
import Derived.Test.YtckdpckdabfkbabDoorScan3
import Derived.Laws.CopyRow
import Derived.Laws.IdiomCopy
import Derived.Test.YtckdpckdabfkbabDoorRead
import Derived.Laws.BytesArg
import Derived.Deep.DeepCutAuto
import Derived.Test.YtckdpckdabfkbabDoorScanS
import Derived.Deep.QuietTactic
import Derived.BigQuiet
import Derived.Test.YtckdpckdabfkbabDoorShelf
import Derived.Test.YtckdpckdabfkbabDoorRows
import Derived.Lib.LaidU8
import Derived.Test.YtckdpckdabfkbabDoorScanC
import Derived.Laws.BitsAllLaws
import Derived.Deep.LoopGhost
import Derived.Deep.CutBlock
import Derived.Test.YtckdpckdabfkbabDoorParts
import Derived.Test.YtckdpckdabfkbabDoorWLast
import Derived.Deep.Cut
namespace Go.Proofs.YtckdpckdabfkbabDoor.Scan
open Go.RowKit Go.Proofs.YtckdpckdabfkbabDoorW.PrintWords Go.Proofs.YtckdpckdabfkbabDoor.Plain Go.Proofs.YtckdpckdabfkbabDoor.Num
set_option linter.unusedVariables false
set_option linter.unusedSimpArgs false
/-- The reference's loop: none where nothing is said. -/
def sloop (S : Sp) (D : ByteArray) (fin : Bool) : Nat → Nat → Nat → List Int → Nat → Bool → Nat → Int → Option Res
  | 0, _, _, _, _, _, _, _ => none
  | k + 1, p, st, out, cnt, ended, feeds, last =>
    if p < D.size then
      if S.sp (rn D p).1 = true ∧ cnt = 0 then sloop S D fin k (p + (rn D p).2) (p + (rn D p).2) out cnt ended feeds last
      else if ended = true ∧ S.sp (rn D p).1 = false ∧ S.isD (rn D p).1 = false ∧ S.isF (rn D p).1 = false then some ⟨p, true, st, out⟩
      else if S.sp (rn D p).1 = true ∧ S.lf (rn D p).1 = true then
        (if feeds + 1 = 2 then (if last = (p : Int) - 1 then some ⟨p + (rn D p).2, true, st, out⟩ else none)
         else sloop S D fin k (p + (rn D p).2) st out cnt ended (feeds + 1) p)
      else if S.sp (rn D p).1 = true then sloop S D fin k (p + (rn D p).2) st out cnt ended feeds last
      else sloop S D fin k (p + (rn D p).2) st (out ++ seg D p (rn D p).2) (cnt + 1) (ended || (S.isD (rn D p).1 || decide (S.most ≤ ((cnt + 1 : Nat) : Int)))) feeds last
    else if ended = true ∨ fin = true then some ⟨D.size, true, st, out⟩ else some ⟨st, false, st, out⟩
/-- Of what something is said. -/
structure Said (S : Sp) : Prop where
  del : ∀ r : Nat, Lib.isSpaceZ r = true → S.isD r = false
  fol : ∀ r : Nat, Lib.isSpaceZ r = true → S.isF r = false
  dbl : S.dbl = true → S.skip = true
theorem Said.lf {S : Sp} (h : Said S) {r : Nat} (hr : S.lf r = true) : S.sp r = true := by
  simp only [Sp.lf, Bool.and_eq_true, decide_eq_true_eq] at hr
  have h10 : r = 10 := by omega
  subst h10
  simp only [Sp.sp, h.dbl hr.1, Bool.true_and]
  rw [Lib.isSpaceZ_nat]; rfl
theorem Said.d {S : Sp} (h : Said S) {r : Nat} (hr : S.sp r = true) : S.isD r = false := by
  simp only [Sp.sp, Bool.and_eq_true] at hr
  exact h.del r hr.2
def Inv (nn : Bool) (feeds : Nat) (last : Int) (p : Nat) : Prop := (feeds = 1 → last < p) ∧ ((nn = true ∧ feeds = 1) ∨ (nn = false ∧ feeds = 0) ∨ (nn = false ∧ feeds = 1 ∧ last + 1 < p))
theorem inner_spec {S : Sp} (hS : Said S) (D : ByteArray) (fin : Bool) (st : Nat) (R : Res) : ∀ (k p : Nat) (out : List Int) (cnt feeds : Nat) (last : Int) (nn : Bool), p ≤ D.size → D.size < p + k → 0 < cnt → Inv nn feeds last p → sloop S D fin k p st out cnt true feeds last = some R → R = ⟨(inner S D k p out nn).1, true, st, (inner S D k p out nn).2⟩ := by
  intro k
  induction k with
  | zero => intro p out cnt feeds last nn h1 h2; omega
  | succ k ih =>
    intro p out cnt feeds last nn h1 h2 hc hI hs
    rw [sloop] at hs
    by_cases hp : p < D.size
    · obtain ⟨r, hr⟩ : ∃ r, (rn D p).1 = r := ⟨_, rfl⟩
      obtain ⟨sz, hsz⟩ : ∃ sz, (rn D p).2 = sz := ⟨_, rfl⟩
      have hrs : rn D p = (r, sz) := by rw [← hr, ← hsz]
      obtain ⟨q1, q2⟩ := rn_pos hp hrs
      rw [if_pos hp, hr, hsz, if_neg (by omega)] at hs
      cases hsp : S.sp r with
      | true =>
        rw [if_neg (by simp [hsp])] at hs
        cases hlf : S.lf r with
        | true =>
          rw [if_pos ⟨hsp, hlf⟩] at hs
          by_cases hf : feeds + 1 = 2
          · rw [if_pos hf] at hs
            by_cases hl : last = (p : Int) - 1
            · rw [if_pos hl] at hs
              have hn : nn = true := by
                rcases hI.2 with h | h | h
                · exact h.1
                · omega
                · omega
              subst hn
              rw [inner_1 hp hrs hsp hlf]
              exact (Option.some.inj hs).symm
            · rw [if_neg hl] at hs; cases hs
          · rw [if_neg hf] at hs
            have hn : nn = false ∧ feeds = 0 := by
              rcases hI.2 with h | h | h
              · omega
              · exact h
              · omega
            obtain ⟨rfl, rfl⟩ := hn
            rw [inner_2 hp hrs hsp hlf]
            exact ih (p + sz) out cnt 1 p true q2 (by omega) hc ⟨fun _ => by omega, Or.inl ⟨rfl, rfl⟩⟩ hs
        | false =>
          rw [if_neg (by simp [hlf]), if_pos hsp] at hs
          rw [inner_3 hp hrs hsp hlf]
          refine ih (p + sz) out cnt feeds last nn q2 (by omega) hc ⟨fun e => by have := hI.1 e; omega, ?_⟩ hs
          rcases hI.2 with h | h | h
          · exact Or.inl h
          · exact Or.inr (Or.inl h)
          · exact Or.inr (Or.inr ⟨h.1, h.2.1, by have := h.2.2; omega⟩)
      | false =>
        cases hd : (S.isD r || S.isF r) with
        | true =>
          have hdf : ¬ (true = true ∧ S.sp r = false ∧ S.isD r = false ∧ S.isF r = false) := by rintro ⟨_, _, h3, h4⟩; rw [h3, h4] at hd; cases hd
          rw [hsp] at hdf
          rw [hsp, if_neg hdf, if_neg (by simp), if_neg (by simp), Bool.true_or] at hs
          rw [inner_4 hp hrs hsp hd]
          refine ih (p + sz) (out ++ seg D p sz) (cnt + 1) feeds last nn q2 (by omega) (by omega) ⟨fun e => by have := hI.1 e; omega, ?_⟩ hs
          rcases hI.2 with h | h | h
          · exact Or.inl h
          · exact Or.inr (Or.inl h)
          · exact Or.inr (Or.inr ⟨h.1, h.2.1, by have := h.2.2; omega⟩)
        | false =>
          have hd2 := hd
          simp only [Bool.or_eq_false_iff] at hd2
          rw [if_pos ⟨rfl, hsp, hd2.1, hd2.2⟩] at hs
          rw [inner_5 hp hrs hsp hd]
          exact (Option.some.inj hs).symm
    · rw [if_neg hp, if_pos (Or.inl rfl)] at hs
      rw [inner_end hp]
      have : p = D.size := by omega
      rw [this]
      exact (Option.some.inj hs).symm
theorem outer_spec {S : Sp} (hS : Said S) (D : ByteArray) (fin : Bool) (R : Res) : ∀ (k p st : Nat) (out : List Int) (cnt feeds : Nat) (last : Int) (nn : Bool), p ≤ D.size → D.size < p + k → (cnt = 0 → out = [] ∧ nn = false ∧ feeds = 0) → Inv nn feeds last p → sloop S D fin k p st out cnt false feeds last = some R → outer S D fin k p st out cnt (decide (cnt = 0)) nn = R := by
  intro k
  induction k with
  | zero => intro p st out cnt feeds last nn h1 h2; omega
  | succ k ih =>
    intro p st out cnt feeds last nn h1 h2 h0 hI hs
    rw [sloop] at hs
    by_cases hp : p < D.size
    · obtain ⟨r, hr⟩ : ∃ r, (rn D p).1 = r := ⟨_, rfl⟩
      obtain ⟨sz, hsz⟩ : ∃ sz, (rn D p).2 = sz := ⟨_, rfl⟩
      have hrs : rn D p = (r, sz) := by rw [← hr, ← hsz]
      obtain ⟨q1, q2⟩ := rn_pos hp hrs
      rw [if_pos hp, hr, hsz] at hs
      cases hsp : S.sp r with
      | true =>
        have hd := hS.d hsp
        by_cases hc : cnt = 0
        · rw [if_pos ⟨hsp, hc⟩] at hs
          obtain ⟨rfl, rfl, rfl⟩ := h0 hc
          subst hc
          rw [decide_eq_true rfl, outer_a1 hp hrs hsp]
          exact ih (p + sz) (p + sz) [] 0 0 last false q2 (by omega) (fun _ => ⟨rfl, rfl, rfl⟩) ⟨fun e => by omega, Or.inr (Or.inl ⟨rfl, rfl⟩)⟩ hs
        · rw [if_neg (by simp [hc]), if_neg (by simp)] at hs
          rw [decide_eq_false hc]
          have hh : decide (cnt = 0) = false := decide_eq_false hc
          cases hlf : S.lf r with
          | true =>
            rw [if_pos ⟨hsp, hlf⟩] at hs
            by_cases hf : feeds + 1 = 2
            · rw [if_pos hf] at hs
              by_cases hl : last = (p : Int) - 1
              · rw [if_pos hl] at hs
                have hn : nn = true := by
                  rcases hI.2 with h | h | h
                  · exact h.1
                  · omega
                  · omega
                subst hn
                rw [outer_a3 hp hrs hsp hd hlf]
                exact Option.some.inj hs
              · rw [if_neg hl] at hs; cases hs
            · rw [if_neg hf] at hs
              have hn : nn = false ∧ feeds = 0 := by
                rcases hI.2 with h | h | h
                · omega
                · exact h
                · omega
              obtain ⟨rfl, rfl⟩ := hn
              rw [outer_a4 hp hrs hsp hd hlf, ← hh]
              exact ih (p + sz) st out cnt 1 p true q2 (by omega) (fun e => absurd e hc) ⟨fun _ => by omega, Or.inl ⟨rfl, rfl⟩⟩ hs
          | false =>
            rw [if_neg (by simp [hlf]), if_pos hsp] at hs
            rw [outer_a5 hp hrs hsp hd hlf]
            have key := ih (p + sz) st out cnt feeds last false q2 (by omega) (fun e => absurd e hc)
            rw [hh] at key
            refine key ⟨fun e => by have := hI.1 e; omega, ?_⟩ hs
            rcases hI.2 with h | h | h
            · exact Or.inr (Or.inr ⟨rfl, h.2, by have := hI.1 h.2; omega⟩)
            · exact Or.inr (Or.inl ⟨rfl, h.2⟩)
            · exact Or.inr (Or.inr ⟨rfl, h.2.1, by have := h.2.2; omega⟩)
      | false =>
        have hlf : S.lf r = false := by
          cases h : S.lf r with
          | false => rfl
          | true => have := hS.lf h; rw [hsp] at this; cases this
        have hln : (S.lf r && nn) = false := by rw [hlf]; rfl
        rw [hsp, if_neg (by simp), if_neg (by simp), if_neg (by simp), if_neg (by simp), Bool.false_or] at hs
        have e1 : decide (cnt + 1 = 0) = false := decide_eq_false (by omega)
        cases hv : ((!S.isD r) && decide (((cnt + 1 : Nat) : Int) < S.most)) with
        | true =>
          have hv2 : (S.isD r || decide (S.most ≤ ((cnt + 1 : Nat) : Int))) = false := by
            simp only [Bool.and_eq_true, Bool.not_eq_true', decide_eq_true_eq] at hv
            rw [hv.1, Bool.false_or, decide_eq_false_iff_not]; omega
          rw [hv2] at hs
          rw [outer_b2 hp hrs hsp hln hv, hlf, Bool.false_or, ← e1]
          refine ih (p + sz) st (out ++ seg D p sz) (cnt + 1) feeds last nn q2 (by omega) (fun e => by omega) ⟨fun e => by have := hI.1 e; omega, ?_⟩ hs
          rcases hI.2 with h | h | h
          · exact Or.inl h
          · exact Or.inr (Or.inl h)
          · exact Or.inr (Or.inr ⟨h.1, h.2.1, by have := h.2.2; omega⟩)
        | false =>
          have hv2 : (S.isD r || decide (S.most ≤ ((cnt + 1 : Nat) : Int))) = true := by
            cases hd : S.isD r with
            | true => rfl
            | false =>
              rw [hd] at hv
              simp only [Bool.not_false, Bool.true_and, decide_eq_false_iff_not] at hv
              rw [Bool.false_or, decide_eq_true_eq]; omega
          rw [hv2] at hs
          rw [outer_b3 hp hrs hsp hln hv]
          refine (inner_spec hS D fin st R k (p + sz) (out ++ seg D p sz) (cnt + 1) feeds last false q2 (by omega) (by omega) ⟨fun e => by have := hI.1 e; omega, ?_⟩ hs).symm
          rcases hI.2 with h | h | h
          · exact Or.inr (Or.inr ⟨rfl, h.2, by have := hI.1 h.2; omega⟩)
          · exact Or.inr (Or.inl ⟨rfl, h.2⟩)
          · exact Or.inr (Or.inr ⟨rfl, h.2.1, by have := h.2.2; omega⟩)
    · rw [if_neg hp] at hs
      rw [outer_end hp]
      cases fin with
      | true => rw [if_pos (Or.inr rfl)] at hs; rw [if_pos rfl]; exact Option.some.inj hs
      | false => rw [if_neg (by simp)] at hs; rw [if_neg (by simp)]; exact Option.some.inj hs
/-- What the reference says of a scan is what the scan tells. -/
theorem scan_spec {S : Sp} (hS : Said S) (D : ByteArray) (fin : Bool) (R : Res) (h : sloop S D fin (D.size + 1) 0 0 [] 0 false 0 (-2) = some R) : scan S D fin = R := by
  have := outer_spec hS D fin R (D.size + 1) 0 0 [] 0 0 (-2) false (Nat.zero_le _) (by omega) (fun _ => ⟨rfl, rfl, rfl⟩) ⟨fun e => by omega, Or.inr (Or.inl ⟨rfl, rfl⟩)⟩ h
  exact this
end Go.Proofs.YtckdpckdabfkbabDoor.Scan
namespace Go.Proofs.YtckdpckdabfkbabDoor.Scan
open Go.RowKit Go.Proofs.YtckdpckdabfkbabDoorW.PrintWords Go.Proofs.YtckdpckdabfkbabDoor.Plain Go.Proofs.YtckdpckdabfkbabDoor.Num
set_option linter.unusedVariables false
set_option linter.unusedSimpArgs false
theorem sl_a {S : Sp} {D : ByteArray} {fin : Bool} {k p st : Nat} {out : List Int} {cnt : Nat} {ended : Bool} {feeds : Nat} {last : Int} {r sz : Nat} (hp : p < D.size) (hr : rn D p = (r, sz)) (h : S.sp r = true) (h0 : cnt = 0) : sloop S D fin (k + 1) p st out cnt ended feeds last = sloop S D fin k (p + sz) (p + sz) out cnt ended feeds last := by
  rw [sloop, if_pos hp, hr, if_pos ⟨h, h0⟩]
theorem sl_b {S : Sp} {D : ByteArray} {fin : Bool} {k p st : Nat} {out : List Int} {cnt feeds : Nat} {last : Int} {r sz : Nat} (hp : p < D.size) (hr : rn D p = (r, sz)) (h : S.sp r = false) (hd : S.isD r = false) (hf : S.isF r = false) : sloop S D fin (k + 1) p st out cnt true feeds last = some ⟨p, true, st, out⟩ := by
  rw [sloop, if_pos hp, hr, if_neg (by simp [h]), if_pos ⟨rfl, h, hd, hf⟩]
theorem sl_c1 {S : Sp} {D : ByteArray} {fin : Bool} {k p st : Nat} {out : List Int} {cnt : Nat} {ended : Bool} {last : Int} {r sz : Nat} (hp : p < D.size) (hr : rn D p = (r, sz)) (h : S.sp r = true) (hl : S.lf r = true) (h0 : cnt ≠ 0) (e : last = (p : Int) - 1) : sloop S D fin (k + 1) p st out cnt ended 1 last = some ⟨p + sz, true, st, out⟩ := by
  rw [sloop, if_pos hp, hr, if_neg (by simp [h0]), if_neg (by simp [h]), if_pos ⟨h, hl⟩, if_pos rfl, if_pos e]
theorem sl_c2 {S : Sp} {D : ByteArray} {fin : Bool} {k p st : Nat} {out : List Int} {cnt : Nat} {ended : Bool} {last : Int} {r sz : Nat} (hp : p < D.size) (hr : rn D p = (r, sz)) (h : S.sp r = true) (hl : S.lf r = true) (h0 : cnt ≠ 0) (e : ¬ last = (p : Int) - 1) : sloop S D fin (k + 1) p st out cnt ended 1 last = none := by
  rw [sloop, if_pos hp, hr, if_neg (by simp [h0]), if_neg (by simp [h]), if_pos ⟨h, hl⟩, if_pos rfl, if_neg e]
theorem sl_c3 {S : Sp} {D : ByteArray} {fin : Bool} {k p st : Nat} {out : List Int} {cnt : Nat} {ended : Bool} {last : Int} {r sz : Nat} (hp : p < D.size) (hr : rn D p = (r, sz)) (h : S.sp r = true) (hl : S.lf r = true) (h0 : cnt ≠ 0) : sloop S D fin (k + 1) p st out cnt ended 0 last = sloop S D fin k (p + sz) st out cnt ended 1 p := by
  rw [sloop, if_pos hp, hr, if_neg (by simp [h0]), if_neg (by simp [h]), if_pos ⟨h, hl⟩, if_neg (by decide)]
theorem sl_d {S : Sp} {D : ByteArray} {fin : Bool} {k p st : Nat} {out : List Int} {cnt : Nat} {ended : Bool} {feeds : Nat} {last : Int} {r sz : Nat} (hp : p < D.size) (hr : rn D p = (r, sz)) (h : S.sp r = true) (hl : S.lf r = false) (h0 : cnt ≠ 0) : sloop S D fin (k + 1) p st out cnt ended feeds last = sloop S D fin k (p + sz) st out cnt ended feeds last := by
  rw [sloop, if_pos hp, hr, if_neg (by simp [h0]), if_neg (by simp [h]), if_neg (by simp [hl]), if_pos h]
theorem sl_e {S : Sp} {D : ByteArray} {fin : Bool} {k p st : Nat} {out : List Int} {cnt : Nat} {ended : Bool} {feeds : Nat} {last : Int} {r sz : Nat} (hp : p < D.size) (hr : rn D p = (r, sz)) (h : S.sp r = false) (hn : (ended && !S.isD r && !S.isF r) = false) : sloop S D fin (k + 1) p st out cnt ended feeds last = sloop S D fin k (p + sz) st (out ++ seg D p sz) (cnt + 1) (ended || (S.isD r || decide (S.most ≤ ((cnt + 1 : Nat) : Int)))) feeds last := by
  have hn2 : ¬ (ended = true ∧ S.sp r = false ∧ S.isD r = false ∧ S.isF r = false) := by
    rintro ⟨h1, _, h3, h4⟩; rw [h1, h3, h4] at hn; cases hn
  rw [sloop, if_pos hp, hr, if_neg (by simp [h]), if_neg hn2, if_neg (by simp [h]), if_neg (by simp [h])]
theorem sl_end1 {S : Sp} {D : ByteArray} {fin : Bool} {k p st : Nat} {out : List Int} {cnt : Nat} {ended : Bool} {feeds : Nat} {last : Int} (hp : ¬ p < D.size) (h : ended = true ∨ fin = true) : sloop S D fin (k + 1) p st out cnt ended feeds last = some ⟨D.size, true, st, out⟩ := by
  rw [sloop, if_neg hp, if_pos h]
theorem sl_end2 {S : Sp} {D : ByteArray} {fin : Bool} {k p st : Nat} {out : List Int} {cnt : Nat} {ended : Bool} {feeds : Nat} {last : Int} (hp : ¬ p < D.size) (h : ¬ (ended = true ∨ fin = true)) : sloop S D fin (k + 1) p st out cnt ended feeds last = some ⟨st, false, st, out⟩ := by
  rw [sloop, if_neg hp, if_neg h]
end Go.Proofs.YtckdpckdabfkbabDoor.Scan
namespace Go.Proofs.YtckdpckdabfkbabDoor.Scan
open Go.RowKit Go.Proofs.YtckdpckdabfkbabDoorW.PrintWords Go.Proofs.YtckdpckdabfkbabDoor.Plain Go.Proofs.YtckdpckdabfkbabDoor.Num Go.Proofs.YtckdpckdabfkbabDoor.PC
set_option linter.unusedVariables false
set_option linter.unusedSimpArgs false
theorem results_tmp4 {fn : Func} {t u v x : Tmp} (h : fn.results = #[.tmp t, .tmp u, .tmp v, .tmp x]) (tmps : Array Value) (P : Program) (w : World) :
    (results fn tmps).run P w = .ok (.tuple #[tmps.getD t undef, tmps.getD u undef, tmps.getD v undef, tmps.getD x undef]) w := by
  simp [results, h]
theorem cloneb_f (l : List Int) (h : l.length ≤ 2147483647) : slices_Clone_byte_byte.f l = some l := by
  simp only [slices_Clone_byte_byte.f, Option.bind_some, List.length_nil, List.nil_append]
  rw [if_pos (by omega)]
theorem add_off (b x j : Nat) : (⟨b, x, none⟩ : Addr).add j = ⟨b, x + j, none⟩ := by unfold Addr.add; by_cases h : j = 0 <;> simp [h]
theorem C_cells {w : World} {b x : Nat} {k : IntKind} {xs : List Int} (hn : xs.length ≤ 9223372036854775807) (h : ∀ i, i < xs.length → w.cell? ⟨b, x + i, none⟩ = some (.int k (xs.getD i 0))) : (Kd.int k).C w (some ⟨b, x, none⟩) xs.length xs :=
  Kd.C_of_reads (enc := Value.int k) (d := (0 : Int)) (h1 := fun _ => rfl) ⟨rfl, hn, fun _ => ⟨⟨b, x, none⟩, rfl, fun j hj => by rw [add_off]; exact h j hj⟩⟩
theorem cells_row {w : World} {base g n cap : Nat} {e : TypeId} {ok : Nat → Prop} {D : ByteArray} (h : (Kd.int .u8).R e w base ok (.slice (some ⟨g, 0, none⟩) (seg D 0 D.size).length cap) (seg D 0 D.size)) {cells : Array Value} (hc : w.heap[g]? = some (.cells cells e (0, 0))) : Row w g 0 D.size (by' D) := by
  refine ⟨cells, e, ⟨_, hc, Or.inl rfl⟩, fun j hj => ?_⟩
  have h1 := (Kd.R_cell (enc := Value.int .u8) (h1 := fun _ => rfl) (0 : Int) h (j : Int) (by omega) (by rw [seg_len]; omega)).1
  have h2 : w.cell? ⟨g, j, none⟩ = cells[j]? := by unfold World.cell?; simp [hc]
  rw [Int.toNat_natCast, h2] at h1
  rw [Nat.zero_add, h1]
  simp only [rdOf, Int.toNat_natCast]
  rw [List.getD_eq_getElem?_getD, List.getElem?_eq_getElem (by rw [seg_len]; omega)]
  simp [seg]
def Res.tk (R : Res) : List Int := if R.tok then R.out else []
theorem tok_reads {w W : World} {b c : Nat} {D : ByteArray} {R : Res} (h : SI w W b 0 D.size (R.mem D)) (ho : R.start + R.out.length ≤ D.size) (hc : D.size ≤ c) (hn : D.size ≤ 2147483647) :
    ∃ At ct, tokv R b 0 c = .slice At R.tk.length ct ∧ R.tk.length ≤ ct ∧ (Kd.int .u8).C W At R.tk.length R.tk ∧ (!At.isNone) = R.tok ∧ R.tk.length ≤ 2147483647 := by
  cases ht : R.tok with
  | true =>
    obtain ⟨x, hx, hx2⟩ := tokv_is ht b 0 c
    have e : R.tk = R.out := by unfold Res.tk; rw [ht]; rfl
    rw [e]
    exact ⟨_, _, hx, by omega, C_cells (by omega) (Res.cells h ht ho hc hx2), rfl, by omega⟩
  | false =>
    have e : R.tk = [] := by unfold Res.tk; rw [ht]; rfl
    rw [e]
    exact ⟨none, 0, by unfold tokv; rw [ht]; rfl, Nat.le_refl _, Kd.C_nil _ _, rfl, by simp⟩
theorem scan_any (fin : Bool) (w : World) (S : Sp) (Ad Af : Option Addr) (cd cf b off c : Nat) (D : ByteArray) (hb : Base w b S Ad Af cd cf) (hrow : Row w b off D.size (by' D)) (hc : D.size ≤ c) (hn : D.size ≤ 1000000000000) (h0 : 0 < D.size) (R : Res) (hR : scan S D fin = R) :
    Calls Tryd.prog 37 #[.agg (sv S Ad Af cd cf), .slice (some ⟨b, off, none⟩) D.size c, .bool fin] w fun e w' =>
      e = .returned (.tuple #[.int .i64 R.adv, tokv R b off c, .nilIface]) ∧ SI w w' b off D.size (R.mem D) := by
  cases fin with
  | true => exact scan_true w S Ad Af cd cf b off c D hb hrow hc hn h0 R hR
  | false => exact scan_false w S Ad Af cd cf b off c D hb hrow hc hn h0 R hR
set_option maxHeartbeats 16000000 in
set_option maxRecDepth 100000 in
theorem scanI_calls (fin : Bool) (w : World) (S : Sp) (Ad Af : Option Addr) (cd cf : Nat) (D : ByteArray) (A : Option Addr) (c : Nat) (hd : (Kd.int .i32).C w Ad S.del.length S.del) (hcd : S.del.length ≤ cd) (hf : (Kd.int .i32).C w Af S.fol.length S.fol) (hcf : S.fol.length ≤ cf) (hl1 : S.del.length ≤ 2147483647) (hl2 : S.fol.length ≤ 2147483647)
    (hA : (Kd.int .u8).C w A D.size (seg D 0 D.size)) (hAc : D.size ≤ c) (h0 : 0 < D.size) (hn : D.size ≤ 1000000000) (ht : Lib.Utf8Tabs 1 2 w) (hw : Lib.WhiteTab 0 w) (R : Res) (hR : scan S D fin = R) :
    Calls Tryd.prog 21 #[.agg (sv S Ad Af cd cf), .slice A D.size c, .bool fin] w fun e w' => ∃ (v : Value) (Ab : Option Addr) (cb : Nat), e = .returned (.tuple #[.int .i64 R.adv, v, .bool R.tok, .slice Ab D.size cb]) ∧ Kd.R (Kd.int .u8) 5 w' w.heap.size (fun _ => True) v R.tk ∧ D.size ≤ cb ∧ (Kd.int .u8).C w' Ab D.size ((List.range D.size).map (R.mem D)) ∧ Below w.heap.size w w' := by
  obtain ⟨del, fol, skip, dbl, most⟩ := S
  obtain ⟨w1, hw1⟩ : ∃ w1, w1 = w.alloc (.cells (sv ⟨del, fol, skip, dbl, most⟩ Ad Af cd cf) 38) := ⟨_, rfl⟩
  have HB : Aside0 (Below w.heap.size w w1) := ⟨by rw [hw1]; exact below_alloc (Below.refl _ _) _⟩
  have HX : Aside0 (w1.heap[w.heap.size]? = some (.cells (sv ⟨del, fol, skip, dbl, most⟩ Ad Af cd cf) 38 (0, 0))) := ⟨by rw [hw1]; exact blk_new w _⟩
  have HCD := Aside0.mk hd
  have HCF := Aside0.mk hf
  have HT := Aside0.mk ht
  have HWT := Aside0.mk hw
  have hlen := seg_len D 0 D.size
  have HK : Aside0 (Calls Tryd.prog 38 #[.slice A D.size c] w1 fun e w' => ∃ v0_ : Value, e = .returned (v0_) ∧ Kd.R (Kd.int .u8) 5 w' w1.heap.size (fun _ => True) v0_ (seg D 0 D.size) ∧ Below w1.heap.size w1 w') := ⟨by
    have := slices_Clone_byte_byte.calls A c (seg D 0 D.size) (seg D 0 D.size) w1 (by rw [hlen]; exact Kd.C_below hA HB.out) (by rw [hlen]; exact hAc) (cloneb_f _ (by rw [hlen]; omega))
    rwa [hlen] at this⟩
  have HRR := Aside0.mk hR
  have hok : ROk D fin 0 R := by rw [← hR]; exact scan_ok _ _ _
  have HOK := Aside0.mk hok
  clear hd hf ht hw hA hR hok
  go_enter Tryd.func21, Tryd.ntmps21
  go_wp2_with fail
  rw [← hw1]
  clear hw1
  refine HK.out.mono ?_
  rintro _ W1 ⟨v0, rfl, hr0, hb0⟩
  obtain ⟨g, cap, e0, g1, g2, cells, g3⟩ := Kd.R_form hr0 (by rw [hlen]; exact h0)
  subst e0
  have hcap := (Kd.R_reads' hr0).2.1
  rw [hlen] at hcap
  have HRow := Aside0.mk (cells_row (n := 0) hr0 g3)
  have HB1 := Aside0.mk (HB.out.trans (hb0.mono HB.out.size))
  have HX1 : Aside0 (W1.heap[w.heap.size]? = some (.cells (sv ⟨del, fol, skip, dbl, most⟩ Ad Af cd cf) 38 (0, 0))) := ⟨(hb0.block _ (Array.getElem?_eq_some_iff.1 HX.out).1).trans HX.out⟩
  have hg : w.heap.size ≤ g := Nat.le_trans HB.out.size g1
  have hgx : w.heap.size ≠ g := by have := (Array.getElem?_eq_some_iff.1 HX.out).1; omega
  clear hr0 hb0 g3 HB HX HK
  rw [hlen]
  have z0 := cells_at HX1.out 0 _ rfl; have z1 := cells_at HX1.out 1 _ rfl; have z2 := cells_at HX1.out 2 _ rfl; have z3 := cells_at HX1.out 3 _ rfl; have z4 := cells_at HX1.out 4 _ rfl
  have HCall := Aside0.mk (impl_splitterOf.calls Ad cd del Af cf fol skip dbl most _ _ _ _ _ W1 (Kd.C_below HCD.out HB1.out) hcd (Kd.C_below HCF.out HB1.out) hcf (split_f _ _ _ _ _ hl1 hl2))
  go_wp2_with fail
  refine HCall.out.mono ?_
  rintro _ W2 ⟨v0_, v1_, rfl, q0, q1, qb⟩
  obtain ⟨A0, c0, rfl, l0, C0⟩ := row_form q0 g2
  obtain ⟨A1, c1, rfl, l1, C1⟩ := row_form q1 g2
  have B2 := HB1.out.trans (qb.mono HB1.out.size)
  have HScan := Aside0.mk (scan_any fin W2 ⟨del, fol, skip, dbl, most⟩ A0 A1 c0 c1 g 0 cap D (base_of hg B2 HT.out HWT.out C0 l0 C1 l1) (HRow.out.step qb) hcap (by omega) h0 R HRR.out)
  have HB2 := Aside0.mk B2
  clear q0 q1 qb C0 C1 l0 l1 B2 z0 z1 z2 z3 z4 HCall HX1 HB1 HRow
  go_wp2_with fail
  refine HScan.out.mono ?_
  rintro _ W3 ⟨rfl, hSI⟩
  obtain ⟨At, ct, hat, htl, htC, htn, hts⟩ := tok_reads hSI HOK.out.o hcap (by omega)
  have HB3 := Aside0.mk (kp_below HB2.out hSI.kept hg HB2.out.size)
  have HSI := Aside0.mk hSI
  rw [hat]
  have HCl := Aside0.mk (slices_Clone_byte_byte.calls At ct R.tk R.tk W3 htC htl (cloneb_f _ hts))
  clear HScan hSI htC hat HB2
  go_wp2_with fail
  refine HCl.out.mono ?_
  rintro _ W4 ⟨v4, rfl, hr4, hb4⟩
  have HR4 := Aside0.mk (Kd.R_lower hr4 HB3.out.size)
  have HB4 := Aside0.mk (HB3.out.trans (hb4.mono HB3.out.size))
  have HSI4 := Aside0.mk (HSI.out.step hb4)
  clear hr4 hb4 HCl
  go_wp2_with fail
  (try simp only [Exit.inBlock, Exit.then]); refine bodyPost_ret (results_tmp4 rfl _ _ _) rfl ?_
  refine ⟨v4, some ⟨g, 0, none⟩, cap, ?_, HR4.out, hcap, ?_, HB4.out⟩
  · rfl
  · have := C_cells (w := W4) (b := g) (x := 0) (k := .u8) (xs := (List.range D.size).map (R.mem D)) (by simp; omega) (fun i hi => by
      simp only [List.length_map, List.length_range] at hi
      rw [HSI4.out.cell i hi, List.getD_eq_getElem?_getD, List.getElem?_eq_getElem (by simpa using hi)]
      simp)
    simpa using this
end Go.Proofs.YtckdpckdabfkbabDoor.Scan
namespace Go.Proofs.YtckdpckdabfkbabDoor.Scan
open Go.RowKit Go.Proofs.YtckdpckdabfkbabDoorW.PrintWords Go.Proofs.YtckdpckdabfkbabDoor.Plain Go.Proofs.YtckdpckdabfkbabDoor.Num Go.Proofs.YtckdpckdabfkbabDoor.PC
set_option linter.unusedVariables false
set_option linter.unusedSimpArgs false
/-- A row of the call's own that holds f. -/
def Own0 (W : World) (g n : Nat) (f : Nat → Int) : Prop := ∃ cells t, W.heap[g]? = some (.cells cells t (0, 0)) ∧ ∀ j, j < n → cells[j]? = some (.int .u8 (f j))
theorem u8_size : (Tryd.prog.info? 5).map (·.size) = some 1 := by kernel_rfl
theorem toL_get (l : List Value) (j : Nat) : l.toArray[j]? = l[j]? := by simp
theorem splice_get {cells : List Value} {s : Nat} {out : List Int} {f : Nat → Int} {D : ByteArray} {n : Nat} (hn : n ≤ cells.length) (hs : s + out.length ≤ n) (h : ∀ j, j < n → cells[j]? = some (.int .u8 (by' D j))) (j : Nat) (hj : j < n) :
    (cells.take s ++ out.map (Value.int .u8) ++ cells.drop (s + (out.map (Value.int .u8)).length))[j]? = some (.int .u8 (mem D s out j)) := by
  rw [List.length_map]
  by_cases h1 : j < s
  · rw [List.append_assoc, List.getElem?_append_left (by rw [List.length_take]; omega), List.getElem?_take, if_pos h1, h j hj]
    unfold mem; rw [if_neg (by omega)]
  · by_cases h2 : j < s + out.length
    · rw [List.getElem?_append_left (by rw [List.length_append, List.length_take, List.length_map]; omega), List.getElem?_append_right (by rw [List.length_take]; omega), List.length_take, Nat.min_eq_left (by omega), List.getElem?_map, List.getElem?_eq_getElem (by omega)]
      unfold mem; rw [if_pos ⟨by omega, h2⟩, List.getD_eq_getElem?_getD, List.getElem?_eq_getElem (by omega)]
      rfl
    · rw [List.getElem?_append_right (by rw [List.length_append, List.length_take, List.length_map]; omega), List.length_append, List.length_take, List.length_map, Nat.min_eq_left (by omega), List.getElem?_drop, show s + out.length + (j - (s + out.length)) = j by omega, h j hj]
      unfold mem; rw [if_neg (by omega)]
theorem kp_row {w : World} {g : Nat} (X : Array Value) : Kp w (w.setRow g X) (fun x => x = g) :=
  ⟨by simp, fun k hk hne => setRow_other w g k X hne, rfl, rfl, rfl⟩
set_option maxHeartbeats 8000000 in
set_option maxRecDepth 100000 in
theorem moved_calls (w : World) (g cap s : Nat) (D : ByteArray) (A : Option Addr) (co : Nat) (out : List Int) (hrow : Own0 w g D.size (by' D)) (hcap : D.size ≤ cap) (hC : (Kd.int .u8).C w A out.length out) (hs : s + out.length ≤ D.size) (hn : D.size ≤ 1000000000) :
    Calls Tryd.prog 43 #[.slice (some ⟨g, 0, none⟩) D.size cap, .int .i64 s, .slice A out.length co] w fun e w' => e = .returned (.slice (some ⟨g, 0, none⟩) D.size cap) ∧ Kp w w' (fun x => x = g) ∧ Own0 w' g D.size (mem D s out) := by
  have s0 : (0 : Int) ≤ s := by omega
  have s1 : (s : Int) ≤ (D.size : Int) := by omega
  by_cases ho : out.length = 0
  · obtain rfl : out = [] := List.length_eq_zero_iff.1 ho
    have hcp := fun (d : Option Addr) (dl dc : Nat) => run_copy_none (P := Tryd.prog) w 22 22 3 5 d A dl dc 0 co Tryd.underlying22 u8_size (Nat.zero_min _)
    have HO : Aside0 (Own0 w g D.size (mem D s [])) := ⟨by obtain ⟨cells, t, h1, h2⟩ := hrow; exact ⟨cells, t, h1, fun j hj => by rw [mem_nil]; exact h2 j hj⟩⟩
    clear hrow hC hs ho
    go_enter Tryd.func43, Tryd.ntmps43
    go_wp2_with fail
    all_goals (go_ret; exact ⟨rfl, Kp.self _ _, HO.out⟩)
  · have hsc : s < cap := by omega
    obtain ⟨cells, t, h1, h2⟩ := hrow
    have hcl : D.size ≤ cells.size := by
      rcases Nat.lt_or_ge cells.size D.size with h | h
      · have := h2 cells.size h
        simp at this
      · exact h
    obtain ⟨ad, rfl, hc⟩ := (Kd.reads_of_C (enc := Value.int .u8) (d := (0 : Int)) (h1 := fun _ => rfl) hC).2.2 (by omega)
    have hcp := run_copy_row (P := Tryd.prog) w 22 22 3 5 g s (D.size - s) (cap - s) ad out.length co cells t (out.map (Value.int .u8)) Tryd.underlying22 u8_size h1 (by rw [List.length_map]; exact (Nat.min_eq_left (by omega)).symm) (fun j v hv => by
      have hj : j < out.length := by have := (List.getElem?_eq_some_iff.1 hv).1; simpa using this
      rw [hc j hj, ← hv, List.getElem?_map, List.getElem?_eq_getElem hj, List.getD_eq_getElem?_getD, List.getElem?_eq_getElem hj]; rfl) (by rw [List.length_map]; omega) (fun v hv => by obtain ⟨z, _, rfl⟩ := List.mem_map.1 hv; rfl)
    have HO : Aside0 (Own0 (w.setRow g (cells.toList.take s ++ out.map (Value.int .u8) ++ cells.toList.drop (s + (out.map (Value.int .u8)).length)).toArray) g D.size (mem D s out)) := ⟨_, t, setRow_heap w g cells _ t _ h1, fun j hj => by
      rw [toL_get]; exact splice_get (f := by' D) (by simpa using hcl) hs (fun j hj => by rw [Array.getElem?_toList]; exact h2 j hj) j hj⟩
    have HKp := Aside0.mk (kp_row (w := w) (g := g) (cells.toList.take s ++ out.map (Value.int .u8) ++ cells.toList.drop (s + (out.map (Value.int .u8)).length)).toArray)
    obtain ⟨W, hW⟩ : ∃ W, W = w.setRow g (cells.toList.take s ++ out.map (Value.int .u8) ++ cells.toList.drop (s + (out.map (Value.int .u8)).length)).toArray := ⟨_, rfl⟩
    rw [← hW] at hcp HO HKp
    clear hW h1 h2 hcl hc hC
    go_enter Tryd.func43, Tryd.ntmps43
    go_wp2_with fail
    go_ret
    exact ⟨rfl, HKp.out, HO.out⟩
end Go.Proofs.YtckdpckdabfkbabDoor.Scan
namespace Go.Proofs.YtckdpckdabfkbabDoor.Scan
open Go.RowKit Go.Proofs.YtckdpckdabfkbabDoorW.PrintWords Go.Proofs.YtckdpckdabfkbabDoor.Plain Go.Proofs.YtckdpckdabfkbabDoor.Num
set_option linter.unusedVariables false
set_option linter.unusedSimpArgs false
theorem nums_all (D : ByteArray) : strOfNums (seg D 0 D.size) = D := by
  apply ByteArray.ext
  have hz : D.size = D.data.size := rfl
  apply Array.ext
  · simp only [strOfNums, List.size_toArray, List.length_map, seg_len]; exact hz
  · intro i h2 h3
    have h5 : D.get! i = D.data[i] := getElem!_pos D.data i h3
    simp only [strOfNums, List.getElem_toArray, List.getElem_map, seg, List.getElem_range, by', Nat.zero_add, Int.toNat_natCast]
    rw [h5]
    simp
set_option maxHeartbeats 8000000 in
set_option maxRecDepth 100000 in
theorem plainb_calls (D : ByteArray) (w : World) (A : Option Addr) (c : Nat) (hA : (Kd.int .u8).C w A D.size (seg D 0 D.size)) :
    Calls Tryd.prog 55 #[.slice A D.size c] w fun e w' => e = .returned (.bool (noErr D (D.size + 1) 0)) ∧ Below w.heap.size w w' := by
  have hcs := Kd.C_string (P := Tryd.prog) Tryd.underlying22 Tryd.underlying5 Tryd.underlying9 (c := c) hA
  rw [nums_all] at hcs
  clear hA
  go_enter Tryd.func55, Tryd.ntmps55
  go_wp2
  go_loopg [4] D.size (fun kq v4 w' => ∃ p : Nat, Aside0 (D.size ≤ p + kq) ∧ Aside0 (w'.heap[w.heap.size]? = some (.stringIter D p)) ∧ Aside0 (Below w.heap.size w w') ∧ Aside0 (noErr D (kq + 1) p = noErr D (D.size + 1) 0))
  case atStart => exact ⟨0, ⟨by omega⟩, ⟨World.iter_heap w D 0⟩, ⟨(Below.refl _ _).alloc (Nat.le_refl _) _⟩, ⟨rfl⟩⟩
  case round =>
    obtain ⟨p, HM, HI, HB, HE⟩ := hrel
    have hm := HM.out
    have he := HE.out
    rw [noErr] at he
    by_cases hp : p < D.size
    · have hnx : ∀ ty, (Instr.next (.pointer (some ⟨w.heap.size, 0, none⟩)) true ty).run Tryd.prog wr = _ := fun ty => Lib.run_next_any_at wr w.heap.size D p ty HI.out hp
      rw [if_pos hp] at he
      obtain ⟨q1, q2, q3⟩ := rn_size D p hp
      cases gk with
      | zero => omega
      | succ k =>
      have HI2 := Aside0.mk (Lib.iterAt_heap wr w.heap.size D p (p + (Utf8.decode D p).2) HI.out)
      have HB2 := Aside0.mk (Lib.below_iterAt HB.out (k := w.heap.size) (Nat.le_refl _) D (p + (Utf8.decode D p).2))
      clear HI HB HE
      by_cases h : (rn D p).1 = 65533
      · rw [if_pos h] at he
        have HE := Aside0.mk he
        clear he
        have hb : (((Utf8.decode D p).1 : Int) == 65533) = true := by rw [beq_iff_eq]; have : (Utf8.decode D p).1 = 65533 := h; omega
        go_wp2
        go_ret
        exact ⟨by rw [← HE.out]; rfl, HB2.out⟩
      · rw [if_neg h] at he
        have HE := Aside0.mk he
        clear he
        have hb : (((Utf8.decode D p).1 : Int) == 65533) = false := by rw [beq_eq_false_iff_ne]; have : ¬ (Utf8.decode D p).1 = 65533 := h; omega
        go_wp2
        go_roundg k
        case measure => omega
        case rel => exact ⟨p + (rn D p).2, ⟨by omega⟩, HI2, HB2, HE⟩
    · have hnx : ∀ ty, (Instr.next (.pointer (some ⟨w.heap.size, 0, none⟩)) true ty).run Tryd.prog wr = _ := fun ty => Lib.run_next_end_at wr w.heap.size D p ty HI.out hp
      rw [if_neg hp] at he
      have HE := Aside0.mk he
      clear he
      go_wp2
      go_ret
      exact ⟨by rw [← HE.out]; rfl, HB.out⟩
end Go.Proofs.YtckdpckdabfkbabDoor.Scan
namespace Go.Proofs.YtckdpckdabfkbabDoor.Scan
open Go.RowKit Go.Proofs.YtckdpckdabfkbabDoorW.PrintWords Go.Proofs.YtckdpckdabfkbabDoor.Plain Go.Proofs.YtckdpckdabfkbabDoor.Num Go.Proofs.YtckdpckdabfkbabDoor.PC
set_option linter.unusedVariables false
set_option linter.unusedSimpArgs false
def KOp (w : World) (S : Sp) (D : ByteArray) (e : Ending) (w' : World) : Prop := ∃ r, e = .returned (.bool r) ∧ (r = false → (∀ j, j < S.del.length → Lib.isSpaceZ (S.del.getD j 0) = false) ∧ (∀ j, j < S.fol.length → Lib.isSpaceZ (S.fol.getD j 0) = false) ∧ noErr D (D.size + 1) 0 = true ∧ (S.dbl = true → S.skip = true)) ∧ Below w.heap.size w w'
set_option maxHeartbeats 16000000 in
set_option maxRecDepth 100000 in
theorem kopen_calls (w : World) (S : Sp) (Ad Af : Option Addr) (cd cf : Nat) (D : ByteArray) (A : Option Addr) (c : Nat) (hd : (Kd.int .i32).C w Ad S.del.length S.del) (hcd : S.del.length ≤ cd) (hf : (Kd.int .i32).C w Af S.fol.length S.fol) (hcf : S.fol.length ≤ cf)
    (hwd : ∀ y ∈ S.del, -2147483648 ≤ y ∧ y ≤ 2147483647) (hwf : ∀ y ∈ S.fol, -2147483648 ≤ y ∧ y ≤ 2147483647) (hA : (Kd.int .u8).C w A D.size (seg D 0 D.size)) (hw : Lib.WhiteTab 0 w)
    (hV : ∀ W, Below w.heap.size w W → Calls Tryd.prog 54 #[.slice A D.size c] W fun e w' => ∃ r, e = .returned (.bool r) ∧ Below W.heap.size W w') :
    Calls Tryd.prog 39 #[.agg (sv S Ad Af cd cf), .slice A D.size c] w fun e w' => KOp w S D e w' := by
  obtain ⟨del, fol, skip, dbl, most⟩ := S
  obtain ⟨w1, hw1⟩ : ∃ w1, w1 = w.alloc (.cells (sv ⟨del, fol, skip, dbl, most⟩ Ad Af cd cf) 38) := ⟨_, rfl⟩
  have HB : Aside0 (Below w.heap.size w w1) := ⟨by rw [hw1]; exact below_alloc (Below.refl _ _) _⟩
  have HX : Aside0 (w1.heap[w.heap.size]? = some (.cells (sv ⟨del, fol, skip, dbl, most⟩ Ad Af cd cf) 38 (0, 0))) := ⟨by rw [hw1]; exact blk_new w _⟩
  have HCD := Aside0.mk hd
  have HCF := Aside0.mk hf
  have HA := Aside0.mk hA
  have HW := Aside0.mk hw
  have HV := Aside0.mk hV
  clear hd hf hA hw hV
  have z0 := cells_at HX.out 0 _ rfl; have z1 := cells_at HX.out 1 _ rfl; have z2 := cells_at HX.out 2 _ rfl; have z3 := cells_at HX.out 3 _ rfl; have z4 := cells_at HX.out 4 _ rfl
  go_enter Tryd.func39, Tryd.ntmps39
  go_wp2_with fail
  rw [← hw1]
  clear hw1
  go_wp2_with fail
  go_loopg [5] del.length (fun kq y w' => ∃ i : Nat, y = .int .i64 i ∧ Aside0 (i + kq = del.length) ∧ Aside0 (∀ j, j < i → Lib.isSpaceZ (del.getD j 0) = false) ∧ Aside0 (Below w.heap.size w w') ∧ Aside0 (w'.heap[w.heap.size]? = some (.cells (sv ⟨del, fol, skip, dbl, most⟩ Ad Af cd cf) 38 (0, 0))))
  case atStart => exact ⟨0, rfl, ⟨by omega⟩, ⟨fun j hj => absurd hj (Nat.not_lt_zero _)⟩, HB, HX⟩
  case round =>
    clear HB HX z0 z1 z2 z3 z4
    obtain ⟨i, rfl, HK, HS, HB, HX⟩ := hrel
    have hk := HK.out
    have z0 := cells_at HX.out 0 _ rfl; have z1 := cells_at HX.out 1 _ rfl; have z2 := cells_at HX.out 2 _ rfl; have z3 := cells_at HX.out 3 _ rfl; have z4 := cells_at HX.out 4 _ rfl
    by_cases hi : i < del.length
    · have hid : (i : Int) < (del.length : Int) := by omega
      have hmx := Kd.C_max HCD.out
      obtain ⟨ad, hA1, hx⟩ := ReadsOf.at_ (Kd.reads_of_C (enc := Value.int .i32) (d := (0 : Int)) (h1 := fun _ => rfl) (Kd.C_below HCD.out HB.out)) (i : Int) (by omega) hid
      subst hA1
      have hy := hwd (rdOf 0 del (i : Int)) (by simp only [rdOf, Int.toNat_natCast]; rw [List.getD_eq_getElem?_getD, List.getElem?_eq_getElem hi]; exact List.getElem_mem hi)
      have hv : rdOf 0 del (i : Int) = del.getD i 0 := by simp only [rdOf, Int.toNat_natCast]
      rw [hv] at hx hy
      rw [Int.toNat_natCast] at hx
      clear hv
      obtain ⟨y, hyv⟩ : ∃ y, y = del.getD i 0 := ⟨_, rfl⟩
      rw [← hyv] at hx hy
      have HYV := Aside0.mk hyv
      clear hyv
      cases gk with
      | zero => omega
      | succ k9 =>
      cases hsp : Lib.isSpaceZ y with
      | true =>
        go_wp2_with (go_at_call 41; refine (Tryd.unicode_IsSpace_any _ _ hy.1 hy.2 (WhiteTab_below HW.out HB.out)).mono ?_; rintro _ W_ ⟨rfl, hb_⟩; rw [hsp]; have HB_ := Aside0.mk (HB.out.trans (hb_.mono HB.out.size)); have HX_ := Aside0.mk ((hb_.block _ (Array.getElem?_eq_some_iff.1 HX.out).1).trans HX.out); clear hb_ HB HX z0 z1 z2 z3 z4; have HB := HB_; have HX := HX_; clear HB_ HX_; have z0 := cells_at HX.out 0 _ rfl; have z1 := cells_at HX.out 1 _ rfl; have z2 := cells_at HX.out 2 _ rfl; have z3 := cells_at HX.out 3 _ rfl; have z4 := cells_at HX.out 4 _ rfl)
        go_ret
        exact ⟨true, rfl, (fun e => by cases e), HB.out⟩
      | false =>
        go_wp2_with (go_at_call 41; refine (Tryd.unicode_IsSpace_any _ _ hy.1 hy.2 (WhiteTab_below HW.out HB.out)).mono ?_; rintro _ W_ ⟨rfl, hb_⟩; rw [hsp]; have HB_ := Aside0.mk (HB.out.trans (hb_.mono HB.out.size)); have HX_ := Aside0.mk ((hb_.block _ (Array.getElem?_eq_some_iff.1 HX.out).1).trans HX.out); clear hb_ HB HX z0 z1 z2 z3 z4; have HB := HB_; have HX := HX_; clear HB_ HX_; have z0 := cells_at HX.out 0 _ rfl; have z1 := cells_at HX.out 1 _ rfl; have z2 := cells_at HX.out 2 _ rfl; have z3 := cells_at HX.out 3 _ rfl; have z4 := cells_at HX.out 4 _ rfl)
        go_roundg k9
        case measure => omega
        case rel => exact ⟨i + 1, int_eq (by omega), ⟨by have := HK.out; omega⟩, ⟨fun j hj => by
          by_cases e : j = i
          · rw [e, ← HYV.out]; exact hsp
          · exact HS.out j (by omega)⟩, HB, HX⟩
    · obtain rfl : i = del.length := by omega
      have hid : ¬ (del.length : Int) < (del.length : Int) := by omega
      have HSD := HS
      clear HS HK hk hi
      go_wp2_with fail
      go_loopg [6] fol.length (fun kq y w' => ∃ i : Nat, y = .int .i64 i ∧ Aside0 (i + kq = fol.length) ∧ Aside0 (∀ j, j < i → Lib.isSpaceZ (fol.getD j 0) = false) ∧ Aside0 (Below w.heap.size w w') ∧ Aside0 (w'.heap[w.heap.size]? = some (.cells (sv ⟨del, fol, skip, dbl, most⟩ Ad Af cd cf) 38 (0, 0))))
      case atStart => exact ⟨0, rfl, ⟨by omega⟩, ⟨fun j hj => absurd hj (Nat.not_lt_zero _)⟩, HB, HX⟩
      case round =>
        clear HB HX z0 z1 z2 z3 z4
        obtain ⟨i, rfl, HK, HS, HB, HX⟩ := hrel
        have hk := HK.out
        have z0 := cells_at HX.out 0 _ rfl; have z1 := cells_at HX.out 1 _ rfl; have z2 := cells_at HX.out 2 _ rfl; have z3 := cells_at HX.out 3 _ rfl; have z4 := cells_at HX.out 4 _ rfl
        by_cases hi : i < fol.length
        · have hid : (i : Int) < (fol.length : Int) := by omega
          have hmx := Kd.C_max HCF.out
          obtain ⟨ad, hA1, hx⟩ := ReadsOf.at_ (Kd.reads_of_C (enc := Value.int .i32) (d := (0 : Int)) (h1 := fun _ => rfl) (Kd.C_below HCF.out HB.out)) (i : Int) (by omega) hid
          subst hA1
          have hy := hwf (rdOf 0 fol (i : Int)) (by simp only [rdOf, Int.toNat_natCast]; rw [List.getD_eq_getElem?_getD, List.getElem?_eq_getElem hi]; exact List.getElem_mem hi)
          have hv : rdOf 0 fol (i : Int) = fol.getD i 0 := by simp only [rdOf, Int.toNat_natCast]
          rw [hv] at hx hy
          rw [Int.toNat_natCast] at hx
          clear hv
          obtain ⟨y, hyv⟩ : ∃ y, y = fol.getD i 0 := ⟨_, rfl⟩
          rw [← hyv] at hx hy
          have HYV := Aside0.mk hyv
          clear hyv
          cases gk with
          | zero => omega
          | succ k9 =>
          cases hsp : Lib.isSpaceZ y with
          | true =>
            go_wp2_with (go_at_call 41; refine (Tryd.unicode_IsSpace_any _ _ hy.1 hy.2 (WhiteTab_below HW.out HB.out)).mono ?_; rintro _ W_ ⟨rfl, hb_⟩; rw [hsp]; have HB_ := Aside0.mk (HB.out.trans (hb_.mono HB.out.size)); have HX_ := Aside0.mk ((hb_.block _ (Array.getElem?_eq_some_iff.1 HX.out).1).trans HX.out); clear hb_ HB HX z0 z1 z2 z3 z4; have HB := HB_; have HX := HX_; clear HB_ HX_; have z0 := cells_at HX.out 0 _ rfl; have z1 := cells_at HX.out 1 _ rfl; have z2 := cells_at HX.out 2 _ rfl; have z3 := cells_at HX.out 3 _ rfl; have z4 := cells_at HX.out 4 _ rfl)
            go_ret
            exact ⟨true, rfl, (fun e => by cases e), HB.out⟩
          | false =>
            go_wp2_with (go_at_call 41; refine (Tryd.unicode_IsSpace_any _ _ hy.1 hy.2 (WhiteTab_below HW.out HB.out)).mono ?_; rintro _ W_ ⟨rfl, hb_⟩; rw [hsp]; have HB_ := Aside0.mk (HB.out.trans (hb_.mono HB.out.size)); have HX_ := Aside0.mk ((hb_.block _ (Array.getElem?_eq_some_iff.1 HX.out).1).trans HX.out); clear hb_ HB HX z0 z1 z2 z3 z4; have HB := HB_; have HX := HX_; clear HB_ HX_; have z0 := cells_at HX.out 0 _ rfl; have z1 := cells_at HX.out 1 _ rfl; have z2 := cells_at HX.out 2 _ rfl; have z3 := cells_at HX.out 3 _ rfl; have z4 := cells_at HX.out 4 _ rfl)
            go_roundg k9
            case measure => omega
            case rel => exact ⟨i + 1, int_eq (by omega), ⟨by have := HK.out; omega⟩, ⟨fun j hj => by
              by_cases e : j = i
              · rw [e, ← HYV.out]; exact hsp
              · exact HS.out j (by omega)⟩, HB, HX⟩
        · obtain rfl : i = fol.length := by omega
          have hid : ¬ (fol.length : Int) < (fol.length : Int) := by omega
          have HSF := HS
          clear HS HK hk hi
          go_wp2_with fail
          cases hne : noErr D (D.size + 1) 0 with
          | true =>
            have HNE := Aside0.mk hne
            clear hne
            cases dbl with
            | true =>
              cases skip with
              | true =>
                go_wp2_with (first | (go_at_call 54; refine (HV.out _ HB.out).mono ?_; rintro _ W_ ⟨rv, rfl, hb_⟩; have HB_ := Aside0.mk (HB.out.trans (hb_.mono HB.out.size)); have HX_ := Aside0.mk ((hb_.block _ (Array.getElem?_eq_some_iff.1 HX.out).1).trans HX.out); clear hb_ HB HX z0 z1 z2 z3 z4; have HB := HB_; have HX := HX_; clear HB_ HX_; have z0 := cells_at HX.out 0 _ rfl; have z1 := cells_at HX.out 1 _ rfl; have z2 := cells_at HX.out 2 _ rfl; have z3 := cells_at HX.out 3 _ rfl; have z4 := cells_at HX.out 4 _ rfl; cases rv) | (go_at_call 55; refine (plainb_calls D _ A c (Kd.C_below HA.out HB.out)).mono ?_; rintro _ W_ ⟨rfl, hb_⟩; rw [HNE.out]; have HB_ := Aside0.mk (HB.out.trans (hb_.mono HB.out.size)); have HX_ := Aside0.mk ((hb_.block _ (Array.getElem?_eq_some_iff.1 HX.out).1).trans HX.out); clear hb_ HB HX z0 z1 z2 z3 z4; have HB := HB_; have HX := HX_; clear HB_ HX_; have z0 := cells_at HX.out 0 _ rfl; have z1 := cells_at HX.out 1 _ rfl; have z2 := cells_at HX.out 2 _ rfl; have z3 := cells_at HX.out 3 _ rfl; have z4 := cells_at HX.out 4 _ rfl))
                all_goals (go_ret; first | exact ⟨true, rfl, (fun e => by cases e), HB.out⟩ | exact ⟨false, rfl, (fun _ => ⟨HSD.out, HSF.out, HNE.out, by simp⟩), HB.out⟩)
              | false =>
                go_wp2_with (first | (go_at_call 54; refine (HV.out _ HB.out).mono ?_; rintro _ W_ ⟨rv, rfl, hb_⟩; have HB_ := Aside0.mk (HB.out.trans (hb_.mono HB.out.size)); have HX_ := Aside0.mk ((hb_.block _ (Array.getElem?_eq_some_iff.1 HX.out).1).trans HX.out); clear hb_ HB HX z0 z1 z2 z3 z4; have HB := HB_; have HX := HX_; clear HB_ HX_; have z0 := cells_at HX.out 0 _ rfl; have z1 := cells_at HX.out 1 _ rfl; have z2 := cells_at HX.out 2 _ rfl; have z3 := cells_at HX.out 3 _ rfl; have z4 := cells_at HX.out 4 _ rfl; cases rv) | (go_at_call 55; refine (plainb_calls D _ A c (Kd.C_below HA.out HB.out)).mono ?_; rintro _ W_ ⟨rfl, hb_⟩; rw [HNE.out]; have HB_ := Aside0.mk (HB.out.trans (hb_.mono HB.out.size)); have HX_ := Aside0.mk ((hb_.block _ (Array.getElem?_eq_some_iff.1 HX.out).1).trans HX.out); clear hb_ HB HX z0 z1 z2 z3 z4; have HB := HB_; have HX := HX_; clear HB_ HX_; have z0 := cells_at HX.out 0 _ rfl; have z1 := cells_at HX.out 1 _ rfl; have z2 := cells_at HX.out 2 _ rfl; have z3 := cells_at HX.out 3 _ rfl; have z4 := cells_at HX.out 4 _ rfl))
                all_goals (go_ret; first | exact ⟨true, rfl, (fun e => by cases e), HB.out⟩ | exact ⟨false, rfl, (fun _ => ⟨HSD.out, HSF.out, HNE.out, by simp⟩), HB.out⟩)
            | false =>
              go_wp2_with (first | (go_at_call 54; refine (HV.out _ HB.out).mono ?_; rintro _ W_ ⟨rv, rfl, hb_⟩; have HB_ := Aside0.mk (HB.out.trans (hb_.mono HB.out.size)); have HX_ := Aside0.mk ((hb_.block _ (Array.getElem?_eq_some_iff.1 HX.out).1).trans HX.out); clear hb_ HB HX z0 z1 z2 z3 z4; have HB := HB_; have HX := HX_; clear HB_ HX_; have z0 := cells_at HX.out 0 _ rfl; have z1 := cells_at HX.out 1 _ rfl; have z2 := cells_at HX.out 2 _ rfl; have z3 := cells_at HX.out 3 _ rfl; have z4 := cells_at HX.out 4 _ rfl; cases rv) | (go_at_call 55; refine (plainb_calls D _ A c (Kd.C_below HA.out HB.out)).mono ?_; rintro _ W_ ⟨rfl, hb_⟩; rw [HNE.out]; have HB_ := Aside0.mk (HB.out.trans (hb_.mono HB.out.size)); have HX_ := Aside0.mk ((hb_.block _ (Array.getElem?_eq_some_iff.1 HX.out).1).trans HX.out); clear hb_ HB HX z0 z1 z2 z3 z4; have HB := HB_; have HX := HX_; clear HB_ HX_; have z0 := cells_at HX.out 0 _ rfl; have z1 := cells_at HX.out 1 _ rfl; have z2 := cells_at HX.out 2 _ rfl; have z3 := cells_at HX.out 3 _ rfl; have z4 := cells_at HX.out 4 _ rfl))
              all_goals (go_ret; first | exact ⟨true, rfl, (fun e => by cases e), HB.out⟩ | exact ⟨false, rfl, (fun _ => ⟨HSD.out, HSF.out, HNE.out, by simp⟩), HB.out⟩)
          | false =>
            have HNE := Aside0.mk hne
            clear hne
            cases dbl with
            | true =>
              cases skip with
              | true =>
                go_wp2_with (first | (go_at_call 54; refine (HV.out _ HB.out).mono ?_; rintro _ W_ ⟨rv, rfl, hb_⟩; have HB_ := Aside0.mk (HB.out.trans (hb_.mono HB.out.size)); have HX_ := Aside0.mk ((hb_.block _ (Array.getElem?_eq_some_iff.1 HX.out).1).trans HX.out); clear hb_ HB HX z0 z1 z2 z3 z4; have HB := HB_; have HX := HX_; clear HB_ HX_; have z0 := cells_at HX.out 0 _ rfl; have z1 := cells_at HX.out 1 _ rfl; have z2 := cells_at HX.out 2 _ rfl; have z3 := cells_at HX.out 3 _ rfl; have z4 := cells_at HX.out 4 _ rfl; cases rv) | (go_at_call 55; refine (plainb_calls D _ A c (Kd.C_below HA.out HB.out)).mono ?_; rintro _ W_ ⟨rfl, hb_⟩; rw [HNE.out]; have HB_ := Aside0.mk (HB.out.trans (hb_.mono HB.out.size)); have HX_ := Aside0.mk ((hb_.block _ (Array.getElem?_eq_some_iff.1 HX.out).1).trans HX.out); clear hb_ HB HX z0 z1 z2 z3 z4; have HB := HB_; have HX := HX_; clear HB_ HX_; have z0 := cells_at HX.out 0 _ rfl; have z1 := cells_at HX.out 1 _ rfl; have z2 := cells_at HX.out 2 _ rfl; have z3 := cells_at HX.out 3 _ rfl; have z4 := cells_at HX.out 4 _ rfl))
                all_goals (go_ret; first | exact ⟨true, rfl, (fun e => by cases e), HB.out⟩ | exact ⟨false, rfl, (fun _ => ⟨HSD.out, HSF.out, HNE.out, by simp⟩), HB.out⟩)
              | false =>
                go_wp2_with (first | (go_at_call 54; refine (HV.out _ HB.out).mono ?_; rintro _ W_ ⟨rv, rfl, hb_⟩; have HB_ := Aside0.mk (HB.out.trans (hb_.mono HB.out.size)); have HX_ := Aside0.mk ((hb_.block _ (Array.getElem?_eq_some_iff.1 HX.out).1).trans HX.out); clear hb_ HB HX z0 z1 z2 z3 z4; have HB := HB_; have HX := HX_; clear HB_ HX_; have z0 := cells_at HX.out 0 _ rfl; have z1 := cells_at HX.out 1 _ rfl; have z2 := cells_at HX.out 2 _ rfl; have z3 := cells_at HX.out 3 _ rfl; have z4 := cells_at HX.out 4 _ rfl; cases rv) | (go_at_call 55; refine (plainb_calls D _ A c (Kd.C_below HA.out HB.out)).mono ?_; rintro _ W_ ⟨rfl, hb_⟩; rw [HNE.out]; have HB_ := Aside0.mk (HB.out.trans (hb_.mono HB.out.size)); have HX_ := Aside0.mk ((hb_.block _ (Array.getElem?_eq_some_iff.1 HX.out).1).trans HX.out); clear hb_ HB HX z0 z1 z2 z3 z4; have HB := HB_; have HX := HX_; clear HB_ HX_; have z0 := cells_at HX.out 0 _ rfl; have z1 := cells_at HX.out 1 _ rfl; have z2 := cells_at HX.out 2 _ rfl; have z3 := cells_at HX.out 3 _ rfl; have z4 := cells_at HX.out 4 _ rfl))
                all_goals (go_ret; first | exact ⟨true, rfl, (fun e => by cases e), HB.out⟩ | exact ⟨false, rfl, (fun _ => ⟨HSD.out, HSF.out, HNE.out, by simp⟩), HB.out⟩)
            | false =>
              go_wp2_with (first | (go_at_call 54; refine (HV.out _ HB.out).mono ?_; rintro _ W_ ⟨rv, rfl, hb_⟩; have HB_ := Aside0.mk (HB.out.trans (hb_.mono HB.out.size)); have HX_ := Aside0.mk ((hb_.block _ (Array.getElem?_eq_some_iff.1 HX.out).1).trans HX.out); clear hb_ HB HX z0 z1 z2 z3 z4; have HB := HB_; have HX := HX_; clear HB_ HX_; have z0 := cells_at HX.out 0 _ rfl; have z1 := cells_at HX.out 1 _ rfl; have z2 := cells_at HX.out 2 _ rfl; have z3 := cells_at HX.out 3 _ rfl; have z4 := cells_at HX.out 4 _ rfl; cases rv) | (go_at_call 55; refine (plainb_calls D _ A c (Kd.C_below HA.out HB.out)).mono ?_; rintro _ W_ ⟨rfl, hb_⟩; rw [HNE.out]; have HB_ := Aside0.mk (HB.out.trans (hb_.mono HB.out.size)); have HX_ := Aside0.mk ((hb_.block _ (Array.getElem?_eq_some_iff.1 HX.out).1).trans HX.out); clear hb_ HB HX z0 z1 z2 z3 z4; have HB := HB_; have HX := HX_; clear HB_ HX_; have z0 := cells_at HX.out 0 _ rfl; have z1 := cells_at HX.out 1 _ rfl; have z2 := cells_at HX.out 2 _ rfl; have z3 := cells_at HX.out 3 _ rfl; have z4 := cells_at HX.out 4 _ rfl))
              all_goals (go_ret; first | exact ⟨true, rfl, (fun e => by cases e), HB.out⟩ | exact ⟨false, rfl, (fun _ => ⟨HSD.out, HSF.out, HNE.out, by simp⟩), HB.out⟩)
end Go.Proofs.YtckdpckdabfkbabDoor.Scan
namespace Go.Proofs.YtckdpckdabfkbabDoor.Scan
open Go.RowKit Go.Proofs.YtckdpckdabfkbabDoorW.PrintWords Go.Proofs.YtckdpckdabfkbabDoor.Plain Go.Proofs.YtckdpckdabfkbabDoor.Num Go.Proofs.YtckdpckdabfkbabDoor.PC
set_option linter.unusedVariables false
set_option linter.unusedSimpArgs false
theorem kin_ev (l : List Int) (a : Int) (hl : l.length ≤ 9223372036854775806) : Ev (fun k => spec_kIn.f k l a) (decide (a ∈ l)) := by
  have loop : ∀ (d i : Nat), l.length - i = d → i ≤ l.length → Ev (fun k => spec_kIn.l0 k l a (i : Int)) (decide (a ∈ l.drop i)) := by
    intro d
    induction d with
    | zero =>
      intro i hd hi
      have : l.drop i = [] := List.drop_eq_nil_of_le (by omega)
      rw [this]
      exact Ev.step (f := fun _ => some false) (fun k => by simp only [spec_kIn.l0]; rw [if_neg (by omega)]) (Ev.now _)
    | succ d ih =>
      intro i hd hi
      have hlt : i < l.length := by omega
      rw [drop_one hlt]
      by_cases h : l[i] = a
      · rw [decide_eq_true (by rw [h]; exact List.mem_cons_self)]
        exact Ev.step (f := fun _ => some true) (fun k => by simp only [spec_kIn.l0]; rw [if_pos (by omega), if_pos (by omega), rd_nat _ _ hlt, if_pos h]) (Ev.now _)
      · have e1 : wrap64 ((i : Int) + 1) = ((i + 1 : Nat) : Int) := by rw [wrap_ok (by omega) (by omega)]; omega
        have e2 : decide (a ∈ l[i] :: l.drop (i + 1)) = decide (a ∈ l.drop (i + 1)) := by
          have : ¬ a = l[i] := fun e => h e.symm
          simp only [List.mem_cons, this, false_or]
        rw [e2]
        exact Ev.step (fun k => by simp only [spec_kIn.l0]; rw [if_pos (by omega), if_pos (by omega), rd_nat _ _ hlt, if_neg h, e1]) (ih (i + 1) (by omega) (by omega))
  have := loop l.length 0 rfl (by omega)
  simpa [spec_kIn.f] using this
theorem sameb_ev (l : List Int) (hl : l.length ≤ 9223372036854775806) : Ev (fun k => laws_same_byte.f k l l) true := by
  have loop : ∀ (d i : Nat), l.length - i = d → i ≤ l.length → Ev (fun k => laws_same_byte.l0 k l l (l.length : Int) (i : Int)) true := by
    intro d
    induction d with
    | zero =>
      intro i hd hi
      exact Ev.step (f := fun _ => some true) (fun k => by simp only [laws_same_byte.l0]; rw [if_neg (by omega)]) (Ev.now _)
    | succ d ih =>
      intro i hd hi
      have hlt : i < l.length := by omega
      have e1 : wrap64 ((i : Int) + 1) = ((i + 1 : Nat) : Int) := by rw [wrap_ok (by omega) (by omega)]; omega
      exact Ev.step (fun k => by simp only [laws_same_byte.l0]; rw [if_pos (by omega), if_pos (by omega), if_pos (by omega), if_pos (by omega), e1]; rw [if_pos trivial]) (ih (i + 1) (by omega) (by omega))
  have := loop l.length 0 rfl (by omega)
  simpa [laws_same_byte.f] using this
theorem decN_len {n b0 b1 b2 b3 r sz : Nat} (h0 : b0 < 256) (h : Lib.decodeN n b0 b1 b2 b3 = (r, sz)) (hr : r ≠ 65533) : (r ≤ 127 ∧ sz = 1) ∨ (128 ≤ r ∧ r ≤ 2047 ∧ sz = 2) ∨ (2048 ≤ r ∧ r ≤ 65535 ∧ (r < 55296 ∨ 57344 ≤ r) ∧ sz = 3) ∨ (65536 ≤ r ∧ r ≤ 1114111 ∧ sz = 4) := by
  unfold Lib.decodeN at h
  repeat' split at h
  all_goals (simp only [Prod.mk.injEq] at h; obtain ⟨rfl, rfl⟩ := h; omega)
theorem rlen_ev {D : ByteArray} {p r sz : Nat} (hp : p < D.size) (hrs : rn D p = (r, sz)) (hr : r ≠ 65533) : Ev (fun k => utf8_RuneLen.f k (r : Int)) (sz : Int) := by
  have h := hrs
  unfold rn at h
  rw [Lib.decode_at] at h
  refine ⟨1, fun k hk => ?_⟩
  obtain ⟨k, rfl⟩ : ∃ q, k = q + 1 := ⟨k - 1, by omega⟩
  show utf8_RuneLen.f (k + 1) (r : Int) = _
  unfold utf8_RuneLen.f
  rw [if_neg (by omega)]
  rcases decN_len (UInt8.toNat_lt _) h hr with ⟨h1, rfl⟩ | ⟨h1, h2, rfl⟩ | ⟨h1, h2, h3, rfl⟩ | ⟨h1, h2, rfl⟩
  · rw [if_pos (by omega)]; rfl
  · rw [if_neg (by omega), if_pos (by omega)]; rfl
  · rw [if_neg (by omega), if_neg (by omega)]
    by_cases h4 : 55296 ≤ (r : Int)
    · rw [if_pos h4, decide_eq_false (by omega), utf8_RuneLen.j0, if_neg (by simp), if_pos (by omega)]; rfl
    · rw [if_neg h4, utf8_RuneLen.j0, if_neg (by simp), if_pos (by omega)]; rfl
  · rw [if_neg (by omega), if_neg (by omega), if_pos (by omega), decide_eq_false (by omega), utf8_RuneLen.j0, if_neg (by simp), if_neg (by omega), if_pos (by omega)]; rfl
end Go.Proofs.YtckdpckdabfkbabDoor.Scan
namespace Go.Proofs.YtckdpckdabfkbabDoor.Scan
open Go.RowKit Go.Proofs.YtckdpckdabfkbabDoorW.PrintWords Go.Proofs.YtckdpckdabfkbabDoor.Plain Go.Proofs.YtckdpckdabfkbabDoor.Num Go.Proofs.YtckdpckdabfkbabDoor.PC
set_option linter.unusedVariables false
set_option linter.unusedSimpArgs false
/-- What the reference's scan answers: nothing is said, or what 'sloop' has. -/
def SpA (w : World) (S : Sp) (D : ByteArray) (fin : Bool) (e : Ending) (w' : World) : Prop :=
  Below w.heap.size w w' ∧ ((∃ n v ok vb, e = .returned (.tuple #[.int .i64 n, v, .bool ok, vb, .bool false])) ∨
    ∃ (R : Res) (v : Value) (Ab : Option Addr) (cb : Nat), e = .returned (.tuple #[.int .i64 R.adv, v, .bool R.tok, .slice Ab D.size cb, .bool true]) ∧ Said S ∧ noErr D (D.size + 1) 0 = true ∧ (0 < D.size → sloop S D fin (D.size + 1) 0 0 [] 0 false 0 (-2) = some R) ∧ (D.size = 0 → R = ⟨0, false, 0, []⟩) ∧
      (∃ Av cv, v = .slice Av R.tk.length cv ∧ R.tk.length ≤ cv ∧ (Kd.int .u8).C w' Av R.tk.length R.tk) ∧ D.size ≤ cb ∧ (Kd.int .u8).C w' Ab D.size ((List.range D.size).map (R.mem D)))
/-- A row of bytes of the walk's own, behind the iterator. -/
abbrev Own1 (W : World) (it : Nat) (A : Option Addr) (c : Nat) (out : List Int) : Prop := W.ownsRow (it + 1) 5 1 (.slice A out.length c) out.length (nums .u8 out)
theorem Own1.kept {W W' : World} {it c : Nat} {A : Option Addr} {out : List Int} (h : Own1 W it A c out) (hm : ∀ k, it < k → k < W.heap.size → W'.heap[k]? = W.heap[k]?) : Own1 W' it A c out :=
  own_move h (fun k hk => hm k (by have := own_base h k hk; omega) (own_lt h k hk))
theorem Own1.below {W W' : World} {it c : Nat} {A : Option Addr} {out : List Int} (h : Own1 W it A c out) (hb : Below W.heap.size W W') : Own1 W' it A c out := h.kept (fun k _ hk => hb.block k hk)
theorem Own1.C {W : World} {it c : Nat} {A : Option Addr} {out : List Int} (h : Own1 W it A c out) : (Kd.int .u8).C W A out.length out := Kd.C_of_reads (enc := Value.int .u8) (d := (0 : Int)) (h1 := fun _ => rfl) (own_reads' h)
theorem own0_C {W : World} {g n : Nat} {f : Nat → Int} (h : Own0 W g n f) (hn : n ≤ 9223372036854775807) : (Kd.int .u8).C W (some ⟨g, 0, none⟩) n ((List.range n).map f) := by
  obtain ⟨cs, t, h1, h2⟩ := h
  have := C_cells (w := W) (b := g) (x := 0) (k := .u8) (xs := (List.range n).map f) (by simp; exact hn) (fun i hi => by
    simp only [List.length_map, List.length_range] at hi
    have h3 : W.cell? ⟨g, 0 + i, none⟩ = some (.int .u8 (f i)) := by unfold World.cell?; simp [h1, h2 i hi]
    rw [h3, List.getD_eq_getElem?_getD, List.getElem?_eq_getElem (by simpa using hi)]
    simp)
  simpa using this
theorem bytesOf_ext (D : ByteArray) (p k : Nat) (h : p + k ≤ D.size) : bytesOf (D.extract p (p + k)) = seg D p k := by
  have hz : D.size = D.data.size := rfl
  apply List.ext_getElem
  · rw [bytesOf_length, seg_len]; simp [ByteArray.size_extract]; omega
  · intro i h1 h2
    rw [seg_len] at h2
    have h5 : D.get! (p + i) = D.data[p + i] := getElem!_pos D.data (p + i) (by omega)
    simp only [bytesOf, seg, List.getElem_map, List.getElem_range, by', h5]
    simp [Array.getElem_extract]
theorem fin_ans {w W : World} {S : Sp} {D : ByteArray} {fin : Bool} {adv st : Nat} {out : List Int} {z : Int} {v : Value} {g cap : Nat} (hB : Below w.heap.size w W) (hS : Said S) (hN : noErr D (D.size + 1) 0 = true) (hs : sloop S D fin (D.size + 1) 0 0 [] 0 false 0 (-2) = some ⟨adv, true, st, out⟩) (h0 : D.size ≠ 0) (hz : z = (adv : Int))
    (hv : ∃ Av cv, v = .slice Av out.length cv ∧ out.length ≤ cv ∧ (Kd.int .u8).C W Av out.length out) (hO : Own0 W g D.size (mem D st out)) (hc : D.size ≤ cap) (hn : D.size ≤ 300) :
    SpA w S D fin (.returned (.tuple #[.int .i64 z, v, .bool true, .slice (some ⟨g, 0, none⟩) D.size cap, .bool true])) W := by
  refine ⟨hB, Or.inr ⟨⟨adv, true, st, out⟩, v, some ⟨g, 0, none⟩, cap, by rw [hz], hS, hN, fun _ => hs, fun e => absurd e h0, hv, hc, ?_⟩⟩
  have := own0_C hO (by omega)
  have e : (List.range D.size).map (mem D st out) = (List.range D.size).map (Res.mem D ⟨adv, true, st, out⟩) := by
    apply List.map_congr_left
    intro i _
    simp [Res.mem]
  rwa [e] at this
theorem fin_ans2 {w W : World} {S : Sp} {D : ByteArray} {fin : Bool} {st : Nat} {out : List Int} {g cap : Nat} (hB : Below w.heap.size w W) (hS : Said S) (hN : noErr D (D.size + 1) 0 = true) (hs : sloop S D fin (D.size + 1) 0 0 [] 0 false 0 (-2) = some ⟨st, false, st, out⟩) (h0 : D.size ≠ 0)
    (hO : Own0 W g D.size (fun j => if st + out.length ≤ j then 32 else mem D st out j)) (hc : D.size ≤ cap) (hn : D.size ≤ 300) :
    SpA w S D fin (.returned (.tuple #[.int .i64 (st : Int), .slice none 0 0, .bool false, .slice (some ⟨g, 0, none⟩) D.size cap, .bool true])) W := by
  refine ⟨hB, Or.inr ⟨⟨st, false, st, out⟩, .slice none 0 0, some ⟨g, 0, none⟩, cap, rfl, hS, hN, fun _ => hs, fun e => absurd e h0, ⟨none, 0, rfl, Nat.le_refl _, Kd.C_nil _ _⟩, hc, ?_⟩⟩
  have := own0_C hO (by omega)
  have e : (List.range D.size).map (fun j => if st + out.length ≤ j then 32 else mem D st out j) = (List.range D.size).map (Res.mem D ⟨st, false, st, out⟩) := by
    apply List.map_congr_left
    intro i _
    simp [Res.mem]
  rwa [e] at this
theorem sl_c1' {S : Sp} {D : ByteArray} {fin : Bool} {k p st : Nat} {out : List Int} {cnt feeds : Nat} {ended : Bool} {last : Int} {r sz : Nat} (hf : feeds = 1) (hp : p < D.size) (hr : rn D p = (r, sz)) (h : S.sp r = true) (hl : S.lf r = true) (h0 : cnt ≠ 0) (e : last = (p : Int) - 1) : sloop S D fin (k + 1) p st out cnt ended feeds last = some ⟨p + sz, true, st, out⟩ := by
  subst hf; exact sl_c1 hp hr h hl h0 e
theorem own0_cell {W : World} {g n : Nat} {f : Nat → Int} (h : Own0 W g n f) (i : Nat) (hi : i < n) : W.cell? ⟨g, i, none⟩ = some (.int .u8 (f i)) := by
  obtain ⟨cs, t, h1, h2⟩ := h
  unfold World.cell?; simp [h1, h2 i hi]
theorem own0_froz {W : World} {g n : Nat} {f : Nat → Int} (h : Own0 W g n f) (i : Nat) : W.frozen? ⟨g, i, none⟩ = false := by
  obtain ⟨cs, t, h1, h2⟩ := h
  unfold World.frozen?; simp [h1]
theorem own0_put {W : World} {g n : Nat} {f : Nat → Int} (h : Own0 W g n f) (i : Nat) (hi : i < n) (x : Int) : Own0 (W.setCell ⟨g, i, none⟩ (.int .u8 x)) g n (fun j => if j = i then x else f j) := by
  obtain ⟨cs, t, h1, h2⟩ := h
  have hlt : i < cs.size := (Array.getElem?_eq_some_iff.1 (h2 i hi)).1
  have hg := (Array.getElem?_eq_some_iff.1 h1).1
  refine ⟨cs.setIfInBounds i (.int .u8 x), t, ?_, fun j hj => ?_⟩
  · simp only [World.setCell, Array.getElem?_modify, if_true, h1, Option.map_some]
    rfl
  · show _ = some (Value.int .u8 (if j = i then x else f j))
    rw [Array.getElem?_setIfInBounds]
    by_cases e : j = i
    · subst e; rw [if_pos rfl, if_pos hlt, if_pos rfl]
    · rw [if_neg (fun q => e q.symm), if_neg e]; exact h2 j hj
end Go.Proofs.YtckdpckdabfkbabDoor.Scan
namespace Go.Proofs.YtckdpckdabfkbabDoor.Scan
open Go.RowKit Go.Proofs.YtckdpckdabfkbabDoorW.PrintWords Go.Proofs.YtckdpckdabfkbabDoor.Plain Go.Proofs.YtckdpckdabfkbabDoor.Num Go.Proofs.YtckdpckdabfkbabDoor.PC
set_option linter.unusedVariables false
set_option linter.unusedSimpArgs false
theorem own_below {W W' : World} {g n : Nat} {f : Nat → Int} (h : Own0 W g n f) (hb : Below W.heap.size W W') : Own0 W' g n f := by
  obtain ⟨cs, t, h1, h2⟩ := h
  exact ⟨cs, t, (hb.block g (Array.getElem?_eq_some_iff.1 h1).1).trans h1, h2⟩
theorem said_of {S : Sp} (h1 : ∀ j, j < S.del.length → Lib.isSpaceZ (S.del.getD j 0) = false) (h2 : ∀ j, j < S.fol.length → Lib.isSpaceZ (S.fol.getD j 0) = false) (h3 : S.dbl = true → S.skip = true) : Said S := by
  have key : ∀ (l : List Int), (∀ j, j < l.length → Lib.isSpaceZ (l.getD j 0) = false) → ∀ r : Nat, Lib.isSpaceZ r = true → decide ((r : Int) ∈ l) = false := by
    intro l h r hr
    rw [decide_eq_false_iff_not]
    intro hm
    obtain ⟨j, hj, e⟩ := List.getElem_of_mem hm
    have := h j hj
    rw [List.getD_eq_getElem?_getD, List.getElem?_eq_getElem hj, Option.getD_some, e, hr] at this
    cases this
  exact ⟨key _ h1, key _ h2, h3⟩
theorem results_tmp5 {fn : Func} {t u v x y : Tmp} (h : fn.results = #[.tmp t, .tmp u, .tmp v, .tmp x, .tmp y]) (tmps : Array Value) (P : Program) (w : World) :
    (results fn tmps).run P w = .ok (.tuple #[tmps.getD t undef, tmps.getD u undef, tmps.getD v undef, tmps.getD x undef, tmps.getD y undef]) w := by
  simp [results, h]
set_option maxHeartbeats 16000000 in
set_option maxRecDepth 100000 in
theorem spec_calls (fin : Bool) (w : World) (S : Sp) (Ad Af : Option Addr) (cd cf : Nat) (D : ByteArray) (A : Option Addr) (c : Nat) (hd : (Kd.int .i32).C w Ad S.del.length S.del) (hcd : S.del.length ≤ cd) (hf : (Kd.int .i32).C w Af S.fol.length S.fol) (hcf : S.fol.length ≤ cf)
    (hwd : ∀ y ∈ S.del, -2147483648 ≤ y ∧ y ≤ 2147483647) (hwf : ∀ y ∈ S.fol, -2147483648 ≤ y ∧ y ≤ 2147483647) (hA : (Kd.int .u8).C w A D.size (seg D 0 D.size)) (hAc : D.size ≤ c) (hn : D.size ≤ 300) (hl1 : S.del.length ≤ 2147483647) (hl2 : S.fol.length ≤ 2147483647) (hw : Lib.WhiteTab 0 w)
    (hV : ∀ W, Below w.heap.size w W → Calls Tryd.prog 54 #[.slice A D.size c] W fun e w' => ∃ r, e = .returned (.bool r) ∧ Below W.heap.size W w') :
    Calls Tryd.prog 23 #[.agg (sv S Ad Af cd cf), .slice A D.size c, .bool fin] w fun e w' => SpA w S D fin e w' := by
  obtain ⟨del, fol, skip, dbl, most⟩ := S
  replace hl1 : del.length ≤ 2147483647 := hl1
  replace hl2 : fol.length ≤ 2147483647 := hl2
  obtain ⟨w1, hw1⟩ : ∃ w1, w1 = w.alloc (.cells (sv ⟨del, fol, skip, dbl, most⟩ Ad Af cd cf) 38) := ⟨_, rfl⟩
  have HB : Aside0 (Below w.heap.size w w1) := ⟨by rw [hw1]; exact below_alloc (Below.refl _ _) _⟩
  have HX : Aside0 (w1.heap[w.heap.size]? = some (.cells (sv ⟨del, fol, skip, dbl, most⟩ Ad Af cd cf) 38 (0, 0))) := ⟨by rw [hw1]; exact blk_new w _⟩
  have HCD := Aside0.mk hd
  have HCF := Aside0.mk hf
  have HA := Aside0.mk hA
  have HW := Aside0.mk hw
  have HV := Aside0.mk hV
  clear hd hf hA hw hV
  have z0 := cells_at HX.out 0 _ rfl; have z1 := cells_at HX.out 1 _ rfl; have z2 := cells_at HX.out 2 _ rfl; have z3 := cells_at HX.out 3 _ rfl; have z4 := cells_at HX.out 4 _ rfl
  go_enter Tryd.func23, Tryd.ntmps23
  go_wp2_with fail
  rw [← hw1]
  clear hw1
  go_upto_region 3 with (go_at_call 39; refine (kopen_calls _ ⟨del, fol, skip, dbl, most⟩ Ad Af cd cf D A c (Kd.C_below HCD.out HB.out) hcd (Kd.C_below HCF.out HB.out) hcf hwd hwf (Kd.C_below HA.out HB.out) (WhiteTab_below HW.out HB.out) (fun W hb => HV.out W (HB.out.trans (hb.mono HB.out.size)))).mono ?_; rintro _ W_ ⟨rv, rfl, hrv, hb_⟩; have HRV := Aside0.mk hrv; clear hrv; have HB_ := Aside0.mk (HB.out.trans (hb_.mono HB.out.size)); have HX_ := Aside0.mk ((hb_.block _ (Array.getElem?_eq_some_iff.1 HX.out).1).trans HX.out); clear hb_ HB HX z0 z1 z2 z3 z4; have HB := HB_; have HX := HX_; clear HB_ HX_; have z0 := cells_at HX.out 0 _ rfl; have z1 := cells_at HX.out 1 _ rfl; have z2 := cells_at HX.out 2 _ rfl; have z3 := cells_at HX.out 3 _ rfl; have z4 := cells_at HX.out 4 _ rfl; cases rv)
  rotate_left
  · go_wp2_with fail
    (try simp only [Exit.inBlock, Exit.then]); refine bodyPost_ret (results_tmp5 rfl _ _ _) rfl ?_
    exact ⟨HB.out, Or.inl ⟨0, .slice none 0 0, false, .slice none 0 0, rfl⟩⟩
  obtain ⟨hk1, hk2, hk3, hk4⟩ := HRV.out (by first | rfl | trivial)
  have HSaid := Aside0.mk (said_of (S := ⟨del, fol, skip, dbl, most⟩) hk1 hk2 hk4)
  have HNE := Aside0.mk hk3
  clear HRV hk1 hk2 hk3 hk4
  by_cases h0 : D.size = 0
  · have h0b : ((D.size : Int) == 0) = true := by simp [h0]
    have H0 := Aside0.mk h0
    clear h0
    go_wp2_with (first | ((with_reducible refine gate_builtin (b := .append) rfl ?_); at_builtin; refine Kd.R_append_row (Value.int .u8) (0 : Int) (h1 := fun _ => rfl) (w0 := w) w.heap.size rfl (.const (.slice none 0 0)) (.tmp 27) 22 5 (.int .u8 0) 1 rfl Tryd.underlying22 (by kernel_rfl) rfl (by decide) (.slice none 0 0) [] (seg D 0 D.size) A D.size c (fun k => w.heap.size + 1 ≤ k) rfl ?aX ?aF (Kd.R_nil _ _ _ _ _) (Kd.C_below HA.out HB.out) HB.out HB.out.size ?aL ?aK; (case aX => first | rfl | (go_simp; done) | (go_simp; rfl)); (case aF => exact fun k hk => by have := (Array.getElem?_eq_some_iff.1 HX.out).1; omega); (case aL => simp; omega); intro v1 w3 hR1 hB1 hG1 hA1; rw [List.nil_append] at hR1; obtain ⟨Aa, ca, ea, la, _⟩ := Kd.R_reads hR1; subst ea; rw [seg_len] at la ⊢; have HR3 := Aside0.mk hR1; have HB3 := Aside0.mk hB1; have HX3 := Aside0.mk ((hG1.block _ (Array.getElem?_eq_some_iff.1 HX.out).1 (by simp [Value.ownBlock])).trans HX.out); clear hR1 hB1 hG1 hA1))
    (try simp only [Exit.inBlock, Exit.then]); refine bodyPost_ret (results_tmp5 rfl _ _ _) rfl ?_
    exact ⟨HB3.out, Or.inr ⟨⟨0, false, 0, []⟩, .slice none 0 0, Aa, ca, rfl, HSaid.out, HNE.out, fun h => absurd h (by have := H0.out; omega), fun _ => rfl, ⟨none, 0, rfl, Nat.le_refl _, Kd.C_nil _ _⟩, la, by rw [H0.out]; exact ⟨rfl, by simp, fun h => absurd h (Nat.lt_irrefl _)⟩⟩⟩
  · have h0b : ((D.size : Int) == 0) = false := by rw [beq_eq_false_iff_ne]; omega
    go_upto_region 7 with (first | ((with_reducible refine gate_builtin (b := .append) rfl ?_); at_builtin; refine Kd.R_append_row (Value.int .u8) (0 : Int) (h1 := fun _ => rfl) (w0 := w) w.heap.size rfl (.const (.slice none 0 0)) (.tmp 27) 22 5 (.int .u8 0) 1 rfl Tryd.underlying22 (by kernel_rfl) rfl (by decide) (.slice none 0 0) [] (seg D 0 D.size) A D.size c (fun k => w.heap.size + 1 ≤ k) rfl ?bX ?bF (Kd.R_nil _ _ _ _ _) (Kd.C_below HA.out HB.out) HB.out HB.out.size ?bL ?bK; (case bX => first | rfl | (go_simp; done) | (go_simp; rfl)); (case bF => exact fun k hk => by have := (Array.getElem?_eq_some_iff.1 HX.out).1; omega); (case bL => simp; omega); intro v1 w3 hR1 hB1 hG1 hA1; rw [List.nil_append] at hR1; obtain ⟨Aa, ca, ea, la, _⟩ := Kd.R_reads hR1; subst ea; rw [seg_len] at la ⊢; have HR3 := Aside0.mk hR1; have HB3 := Aside0.mk hB1; have HX3 := Aside0.mk ((hG1.block _ (Array.getElem?_eq_some_iff.1 HX.out).1 (by simp [Value.ownBlock])).trans HX.out); clear hR1 hB1 hG1 hA1))
    obtain ⟨g, cap, e0, g1, g2, cells, g3⟩ := Kd.R_form HR3.out (by rw [seg_len]; omega)
    have g0 := HR3.out.1 g (by rw [e0]; rfl)
    have g0b : w.heap.size ≤ g := by omega
    rw [seg_len] at e0
    obtain ⟨rfl, -, rfl⟩ : Aa = some ⟨g, 0, none⟩ ∧ True ∧ ca = cap := by injection e0 with x1 x2 x3; exact ⟨x1, trivial, x3⟩
    have HRow := Aside0.mk (cells_row (n := 0) HR3.out g3)
    have hcs := Kd.C_string (P := Tryd.prog) Tryd.underlying22 Tryd.underlying5 Tryd.underlying9 (c := c) (Kd.C_below HA.out HB3.out)
    rw [nums_all] at hcs
    have HOwn : Aside0 (Own0 w3 g D.size (by' D)) := ⟨by obtain ⟨cs, t, ⟨z, q1, q2⟩, q3⟩ := HRow.out; rw [g3] at q1; cases q1; exact ⟨_, _, g3, fun j hj => by have := q3 j hj; rwa [Nat.zero_add] at this⟩⟩
    clear e0 g3
    go_wp2_with fail
    obtain ⟨it, hit⟩ : ∃ it, it = w3.heap.size := ⟨_, rfl⟩
    rw [← hit]
    obtain ⟨ANS, hANS⟩ : ∃ ANS, sloop ⟨del, fol, skip, dbl, most⟩ D fin (D.size + 1) 0 0 [] 0 false 0 (-2) = ANS := ⟨_, rfl⟩
    have HANS := Aside0.mk hANS
    have HIT : Aside0 (w.heap.size ≤ it ∧ g < it) := ⟨by rw [hit]; exact ⟨HB3.out.size, g2⟩⟩
    have HI0 : Aside0 ((w3.iter D 0).heap[it]? = some (.stringIter D 0)) := ⟨by rw [hit]; exact World.iter_heap w3 D 0⟩
    have hbi : Below w3.heap.size w3 (w3.iter D 0) := below_alloc (Below.refl _ _) _
    have HB0 : Aside0 (Below w.heap.size w (w3.iter D 0)) := ⟨HB3.out.trans (hbi.mono HB3.out.size)⟩
    have HX0 : Aside0 ((w3.iter D 0).heap[w.heap.size]? = some (.cells (sv ⟨del, fol, skip, dbl, most⟩ Ad Af cd cf) 38 (0, 0))) := ⟨(hbi.block _ (Array.getElem?_eq_some_iff.1 HX3.out).1).trans HX3.out⟩
    have HO0 : Aside0 (Own0 (w3.iter D 0) g D.size (by' D)) := ⟨by obtain ⟨cs, t, q1, q2⟩ := HOwn.out; exact ⟨cs, t, (hbi.block g g2).trans q1, q2⟩⟩
    clear hANS hit hbi HOwn HRow HR3 HB HX z0 z1 z2 z3 z4 hcs
    go_loopg [12, 14, 15, 16, 17, 18] (D.size + 1) (fun kq y12 y14 y15 y16 y17 y18 w' => ∃ (p st cnt feeds : Nat) (last : Int) (out : List Int) (ended : Bool) (Ao : Option Addr) (co : Nat), y12 = .slice Ao out.length co ∧ y14 = .int .i64 st ∧ y15 = .int .i64 cnt ∧ y16 = .bool ended ∧ y17 = .int .i64 feeds ∧ y18 = .int .i64 last ∧ Aside0 (D.size < p + kq ∧ p ≤ D.size ∧ st + out.length ≤ p ∧ cnt ≤ p ∧ feeds ≤ 1 ∧ (feeds = 1 → 0 ≤ last ∧ last < p) ∧ (cnt = 0 → out = [])) ∧ Aside0 (Own1 w' it Ao co out) ∧ Aside0 (sloop ⟨del, fol, skip, dbl, most⟩ D fin kq p st out cnt ended feeds last = ANS) ∧ Aside0 (noErr D kq p = true) ∧ Aside0 (w'.heap[it]? = some (.stringIter D p)) ∧ Aside0 (Own0 w' g D.size (by' D)) ∧ Aside0 (Below w.heap.size w w') ∧ Aside0 (w'.heap[w.heap.size]? = some (.cells (sv ⟨del, fol, skip, dbl, most⟩ Ad Af cd cf) 38 (0, 0))))
    case atStart => exact ⟨0, 0, 0, 0, -2, [], false, none, 0, rfl, rfl, rfl, rfl, rfl, rfl, ⟨by simp⟩, ⟨own_nil _ _ _ _⟩, HANS, HNE, HI0, HO0, HB0, HX0⟩
    case round =>
      clear HI0 HO0 HB0 HX0
      obtain ⟨p, st, cnt, feeds, last, out, ended, Ao, co, rfl, rfl, rfl, rfl, rfl, rfl, HM, HR, HS, HN, HI, HO, HB, HX⟩ := hrel
      obtain ⟨m1, m2, m3, m4, m5, m6, m7⟩ := HM.out
      by_cases hp : p < D.size
      · cases gk with
        | zero => omega
        | succ k9 =>
        obtain ⟨q1, q2, q3⟩ := rn_size D p hp
        obtain ⟨r, hr⟩ : ∃ r, (rn D p).1 = r := ⟨_, rfl⟩
        obtain ⟨sz, hsz⟩ : ∃ sz, (rn D p).2 = sz := ⟨_, rfl⟩
        have HRS : Aside0 (rn D p = (r, sz)) := ⟨by rw [← hr, ← hsz]⟩
        rw [hr] at q3
        rw [hsz] at q1 q2
        have he := HN.out
        rw [noErr, if_pos hp, HRS.out] at he
        have hr5 : r ≠ 65533 := by intro e; rw [e] at he; simp at he
        have HN2 : Aside0 (noErr D k9 (p + sz) = true) := ⟨by simpa [hr5] using he⟩
        have hnx : ∀ ty, (Instr.next (.pointer (some ⟨it, 0, none⟩)) true ty).run Tryd.prog wr = .ok (.tuple #[.bool true, .int .i64 p, .int .i32 r]) (wr.iterAt it D (p + sz)) := fun ty => by
          have h := Lib.run_next_any_at (P := Tryd.prog) wr it D p ty HI.out hp
          have h2 : Utf8.decode D p = (r, sz) := HRS.out
          rw [h2] at h
          exact h
        have HI2 := Aside0.mk (Lib.iterAt_heap wr it D p (p + sz) HI.out)
        have HB2 := Aside0.mk (Lib.below_iterAt HB.out HIT.out.1 D (p + sz))
        have HX2 := Aside0.mk ((Lib.iterAt_other wr it w.heap.size D (p + sz) (fun e => by have h1 := HI.out; rw [← e, HX.out] at h1; cases h1)).trans HX.out)
        have HO2 : Aside0 (Own0 (wr.iterAt it D (p + sz)) g D.size (by' D)) := ⟨by obtain ⟨cs, t, x1, x2⟩ := HO.out; exact ⟨cs, t, (Lib.iterAt_other wr it g D (p + sz) (by have := HIT.out.2; omega)).trans x1, x2⟩⟩
        have HR2 := Aside0.mk (Own1.kept (W' := wr.iterAt it D (p + sz)) HR.out (fun k hk _ => Lib.iterAt_other wr it k D (p + sz) (by omega)))
        obtain ⟨Wi, hWi⟩ : ∃ Wi, Wi = wr.iterAt it D (p + sz) := ⟨_, rfl⟩
        rw [← hWi] at hnx HI2 HB2 HX2 HO2 HR2
        clear hWi hr hsz he HN HI HB HX HO HR
        have HI := HI2
        have HB := HB2
        have HX := HX2
        have HO := HO2
        have HR := HR2
        clear HI2 HB2 HX2 HO2 HR2
        have z0 := cells_at HX.out 0 _ rfl; have z1 := cells_at HX.out 1 _ rfl; have z2 := cells_at HX.out 2 _ rfl; have z3 := cells_at HX.out 3 _ rfl; have z4 := cells_at HX.out 4 _ rfl
        obtain ⟨jr, hjr⟩ := rlen_ev hp HRS.out hr5
        have HRL := Aside0.mk (hjr jr (Nat.le_refl _))
        clear hjr
        go_upto_region 13 with (go_at_call 40; refine (utf8_RuneLen.calls jr _ _ _ HRL.out).mono ?_; rintro _ W_ ⟨rfl, hd_⟩; have hb_ := hd_.below; clear hd_; have HI_ := Aside0.mk ((hb_.block _ (Array.getElem?_eq_some_iff.1 HI.out).1).trans HI.out); have HO_ := Aside0.mk (own_below HO.out hb_); have HR_ := Aside0.mk (Own1.below HR.out hb_); clear HI HO HR; have HI := HI_; have HO := HO_; have HR := HR_; clear HI_ HO_ HR_; have HB_ := Aside0.mk (HB.out.trans (hb_.mono HB.out.size)); have HX_ := Aside0.mk ((hb_.block _ (Array.getElem?_eq_some_iff.1 HX.out).1).trans HX.out); clear hb_ HB HX z0 z1 z2 z3 z4; have HB := HB_; have HX := HX_; clear HB_ HX_; have z0 := cells_at HX.out 0 _ rfl; have z1 := cells_at HX.out 1 _ rfl; have z2 := cells_at HX.out 2 _ rfl; have z3 := cells_at HX.out 3 _ rfl; have z4 := cells_at HX.out 4 _ rfl)
        clear hnx
        go_cut [22] (fun y22 wc => y22 = .bool (Sp.sp ⟨del, fol, skip, dbl, most⟩ r) ∧ Aside0 (wc.heap[it]? = some (.stringIter D (p + sz))) ∧ Aside0 (Own0 wc g D.size (by' D)) ∧ Aside0 (Own1 wc it Ao co out) ∧ Aside0 (Below w.heap.size w wc) ∧ Aside0 (wc.heap[w.heap.size]? = some (.cells (sv ⟨del, fol, skip, dbl, most⟩ Ad Af cd cf) 38 (0, 0))))
        case first =>
          cases skip with
          | false =>
            go_wp2_with fail
            go_meet
            case rel => exact ⟨rfl, HI, HO, HR, HB, HX⟩
          | true =>
            cases hi : Lib.isSpaceZ r with
            | false =>
              go_wp2_with (go_at_call 41; refine (Tryd.unicode_IsSpace_any _ _ (by omega) (by omega) (WhiteTab_below HW.out HB.out)).mono ?_; rintro _ W_ ⟨rfl, hb_⟩; rw [hi]; have HI_ := Aside0.mk ((hb_.block _ (Array.getElem?_eq_some_iff.1 HI.out).1).trans HI.out); have HO_ := Aside0.mk (own_below HO.out hb_); have HR_ := Aside0.mk (Own1.below HR.out hb_); clear HI HO HR; have HI := HI_; have HO := HO_; have HR := HR_; clear HI_ HO_ HR_; have HB_ := Aside0.mk (HB.out.trans (hb_.mono HB.out.size)); have HX_ := Aside0.mk ((hb_.block _ (Array.getElem?_eq_some_iff.1 HX.out).1).trans HX.out); clear hb_ HB HX z0 z1 z2 z3 z4; have HB := HB_; have HX := HX_; clear HB_ HX_; have z0 := cells_at HX.out 0 _ rfl; have z1 := cells_at HX.out 1 _ rfl; have z2 := cells_at HX.out 2 _ rfl; have z3 := cells_at HX.out 3 _ rfl; have z4 := cells_at HX.out 4 _ rfl)
              go_meet
              case rel => exact ⟨by simp [Sp.sp, hi], HI, HO, HR, HB, HX⟩
            | true =>
              go_wp2_with (go_at_call 41; refine (Tryd.unicode_IsSpace_any _ _ (by omega) (by omega) (WhiteTab_below HW.out HB.out)).mono ?_; rintro _ W_ ⟨rfl, hb_⟩; rw [hi]; have HI_ := Aside0.mk ((hb_.block _ (Array.getElem?_eq_some_iff.1 HI.out).1).trans HI.out); have HO_ := Aside0.mk (own_below HO.out hb_); have HR_ := Aside0.mk (Own1.below HR.out hb_); clear HI HO HR; have HI := HI_; have HO := HO_; have HR := HR_; clear HI_ HO_ HR_; have HB_ := Aside0.mk (HB.out.trans (hb_.mono HB.out.size)); have HX_ := Aside0.mk ((hb_.block _ (Array.getElem?_eq_some_iff.1 HX.out).1).trans HX.out); clear hb_ HB HX z0 z1 z2 z3 z4; have HB := HB_; have HX := HX_; clear HB_ HX_; have z0 := cells_at HX.out 0 _ rfl; have z1 := cells_at HX.out 1 _ rfl; have z2 := cells_at HX.out 2 _ rfl; have z3 := cells_at HX.out 3 _ rfl; have z4 := cells_at HX.out 4 _ rfl)
              go_meet
              case rel => exact ⟨by simp [Sp.sp, hi], HI, HO, HR, HB, HX⟩
        case rest =>
          obtain ⟨rfl, HI, HO, HR, HB, HX⟩ := hcut
          clear z0 z1 z2 z3 z4
          have z0 := cells_at HX.out 0 _ rfl; have z1 := cells_at HX.out 1 _ rfl; have z2 := cells_at HX.out 2 _ rfl; have z3 := cells_at HX.out 3 _ rfl; have z4 := cells_at HX.out 4 _ rfl
          cases hsp : Sp.sp ⟨del, fol, skip, dbl, most⟩ r with
          | true =>
            by_cases hc : cnt = 0
            · have hcb : ((cnt : Int) == 0) = true := by simp [hc]
              obtain rfl := m7 hc
              have HS2 := Aside0.mk ((sl_a hp HRS.out hsp hc).symm.trans HS.out)
              have hc2 := Aside0.mk hc
              clear hc
              go_wp2_with fail
              go_roundg k9
              case measure => omega
              case rel => exact ⟨p + sz, p + sz, cnt, feeds, last, [], ended, Ao, co, rfl, int_eq (by omega), rfl, rfl, rfl, rfl, ⟨by simp only [List.length_nil]; refine ⟨?_, ?_, ?_, ?_, ?_, ?_, ?_⟩ <;> first | omega | (intro e; have := m6 e; omega) | simp⟩, HR, HS2, HN2, HI, HO, HB, HX⟩
            · have hcb : ((cnt : Int) == 0) = false := by rw [beq_eq_false_iff_ne]; omega
              go_upto_region 16 with fail
              go_cut [75] (fun y75 wc => y75 = .bool false ∧ Aside0 (wc.heap[it]? = some (.stringIter D (p + sz))) ∧ Aside0 (Own0 wc g D.size (by' D)) ∧ Aside0 (Own1 wc it Ao co out) ∧ Aside0 (Below w.heap.size w wc) ∧ Aside0 (wc.heap[w.heap.size]? = some (.cells (sv ⟨del, fol, skip, dbl, most⟩ Ad Af cd cf) 38 (0, 0))))
              case first =>
                cases ended with
                | true =>
                  go_wp2_with fail
                  go_meet
                  case rel => exact ⟨rfl, HI, HO, HR, HB, HX⟩
                | false =>
                  go_wp2_with fail
                  go_meet
                  case rel => exact ⟨rfl, HI, HO, HR, HB, HX⟩
              case rest =>
                obtain ⟨rfl, HI, HO, HR, HB, HX⟩ := hcut
                clear z0 z1 z2 z3 z4
                have z0 := cells_at HX.out 0 _ rfl; have z1 := cells_at HX.out 1 _ rfl; have z2 := cells_at HX.out 2 _ rfl; have z3 := cells_at HX.out 3 _ rfl; have z4 := cells_at HX.out 4 _ rfl
                cases hlf : Sp.lf ⟨del, fol, skip, dbl, most⟩ r with
                | true =>
                  obtain ⟨hdb, hr10⟩ : dbl = true ∧ (r : Int) = 10 := by simpa [Sp.lf] using hlf
                  subst hdb
                  have h10b : ((r : Int) == 10) = true := by rw [beq_iff_eq]; exact hr10
                  clear hr10
                  by_cases hf : feeds = 1
                  · obtain ⟨n1, n2⟩ := m6 hf
                    by_cases hl : last = (p : Int) - 1
                    · have HS2 := Aside0.mk (HS.out.symm.trans (sl_c1' hf hp HRS.out hsp hlf hc hl))
                      have hlb : (last != (p : Int) - 1) = false := by rw [bne_eq_false_iff_eq]; exact hl
                      have hfb : ((feeds : Int) + 1 == 2) = true := by rw [beq_iff_eq]; omega
                      clear hl hf
                      go_wp2_with (go_at_call 43; refine (moved_calls _ g ca st D _ _ out HO.out la HR.out.C (by omega) (by omega)).mono ?_; rintro _ W_ ⟨rfl, hk_, ho_⟩; have HO_ := Aside0.mk ho_; have HR_ := Aside0.mk (Own1.kept HR.out (fun k hk hl => hk_.old k hl (by have := HIT.out.2; omega))); have HB_ := Aside0.mk (kp_below HB.out hk_ g0b HB.out.size); clear hk_ ho_ HO HR HB z0 z1 z2 z3 z4; have HO := HO_; have HR := HR_; have HB := HB_; clear HO_ HR_ HB_)
                      (try simp only [Exit.inBlock, Exit.then]); refine bodyPost_ret (results_tmp5 rfl _ _ _) rfl ?_
                      exact fin_ans HB.out HSaid.out HNE.out (HANS.out.trans (HS2.out)) h0 (by omega) ⟨_, _, rfl, own_cap HR.out, HR.out.C⟩ HO.out la hn
                    · have hlb : (last != (p : Int) - 1) = true := by rw [bne_iff_ne]; exact hl
                      have hfb : ((feeds : Int) + 1 == 2) = true := by rw [beq_iff_eq]; omega
                      clear hf
                      go_wp2_with fail
                      (try simp only [Exit.inBlock, Exit.then]); refine bodyPost_ret (results_tmp5 rfl _ _ _) rfl ?_
                      exact ⟨HB.out, Or.inl ⟨0, _, _, _, rfl⟩⟩
                  · obtain rfl : feeds = 0 := by omega
                    have HS2 := Aside0.mk ((sl_c3 hp HRS.out hsp hlf hc).symm.trans HS.out)
                    go_wp2_with fail
                    go_roundg k9
                    case measure => omega
                    case rel => exact ⟨p + sz, st, cnt, 1, (p : Int), out, ended, _, _, (by first | rfl | (rw [List.length_append])), int_eq (by omega), int_eq (by omega), rfl, int_eq (by omega), int_eq (by omega), ⟨by (try simp only [List.length_nil, List.length_append, seg_len]); refine ⟨?_, ?_, ?_, ?_, ?_, ?_, ?_⟩ <;> first | omega | (intro e; have := m6 e; omega) | (intro e; exact ⟨by omega, by omega⟩) | (intro e; exfalso; omega) | simp⟩, HR, HS2, HN2, HI, HO, HB, HX⟩
                | false =>
                  have HS2 := Aside0.mk ((sl_d hp HRS.out hsp hlf hc).symm.trans HS.out)
                  go_upto_region 18 with fail
                  go_cut [90] (fun y90 wc => y90 = .bool false ∧ Aside0 (wc.heap[it]? = some (.stringIter D (p + sz))) ∧ Aside0 (Own0 wc g D.size (by' D)) ∧ Aside0 (Own1 wc it Ao co out) ∧ Aside0 (Below w.heap.size w wc) ∧ Aside0 (wc.heap[w.heap.size]? = some (.cells (sv ⟨del, fol, skip, dbl, most⟩ Ad Af cd cf) 38 (0, 0))))
                  case first =>
                    cases h10b : ((r : Int) == 10) with
                    | false =>
                      go_wp2_with fail
                      go_meet
                      case rel => exact ⟨rfl, HI, HO, HR, HB, HX⟩
                    | true =>
                      cases dbl with
                      | false =>
                        go_wp2_with fail
                        go_meet
                        case rel => exact ⟨rfl, HI, HO, HR, HB, HX⟩
                      | true =>
                        exfalso; rw [beq_iff_eq] at h10b; simp [Sp.lf, h10b] at hlf
                  case rest =>
                    obtain ⟨rfl, HI, HO, HR, HB, HX⟩ := hcut
                    clear z0 z1 z2 z3 z4
                    have z0 := cells_at HX.out 0 _ rfl; have z1 := cells_at HX.out 1 _ rfl; have z2 := cells_at HX.out 2 _ rfl; have z3 := cells_at HX.out 3 _ rfl; have z4 := cells_at HX.out 4 _ rfl
                    go_wp2_with fail
                    go_roundg k9
                    case measure => omega
                    case rel => exact ⟨p + sz, st, cnt, feeds, last, out, ended, _, _, (by first | rfl | (rw [List.length_append])), int_eq (by omega), int_eq (by omega), rfl, int_eq (by omega), int_eq (by omega), ⟨by (try simp only [List.length_nil, List.length_append, seg_len]); refine ⟨?_, ?_, ?_, ?_, ?_, ?_, ?_⟩ <;> first | omega | (intro e; have := m6 e; omega) | (intro e; exact ⟨by omega, by omega⟩) | (intro e; exfalso; omega) | simp⟩, HR, HS2, HN2, HI, HO, HB, HX⟩
          | false =>
            obtain ⟨jd, hjd⟩ := kin_ev del r (by omega)
            obtain ⟨jf, hjf⟩ := kin_ev fol r (by omega)
            obtain ⟨dD, hdD⟩ : ∃ d, Sp.isD ⟨del, fol, skip, dbl, most⟩ r = d := ⟨_, rfl⟩
            obtain ⟨dF, hdF⟩ : ∃ d, Sp.isF ⟨del, fol, skip, dbl, most⟩ r = d := ⟨_, rfl⟩
            have HKD : Aside0 (spec_kIn.f jd del r = some dD) := ⟨by rw [← hdD]; exact hjd jd (Nat.le_refl _)⟩
            have HKF : Aside0 (spec_kIn.f jf fol r = some dF) := ⟨by rw [← hdF]; exact hjf jf (Nat.le_refl _)⟩
            have HdD := Aside0.mk hdD
            have HdF := Aside0.mk hdF
            clear hjd hjf hdD hdF
            go_upto_region 16 with fail
            go_cut [75] (fun y75 wc => y75 = .bool (ended && !dD && !dF) ∧ Aside0 (wc.heap[it]? = some (.stringIter D (p + sz))) ∧ Aside0 (Own0 wc g D.size (by' D)) ∧ Aside0 (Own1 wc it Ao co out) ∧ Aside0 (Below w.heap.size w wc) ∧ Aside0 (wc.heap[w.heap.size]? = some (.cells (sv ⟨del, fol, skip, dbl, most⟩ Ad Af cd cf) 38 (0, 0))))
            case first =>
              cases ended with
              | false =>
                go_wp2_with fail
                go_meet
                case rel => exact ⟨rfl, HI, HO, HR, HB, HX⟩
              | true =>
                cases dD with
                | true =>
                  go_wp2_with (first | (go_at_call 42; ((with_reducible refine (spec_kIn.calls _ Ad cd del _ _ _ (Kd.C_below HCD.out HB.out) hcd HKD.out).mono ?_); rintro _ W_ ⟨rfl, hd_⟩; have hb_ := hd_.below; clear hd_; have HI_ := Aside0.mk ((hb_.block _ (Array.getElem?_eq_some_iff.1 HI.out).1).trans HI.out); have HO_ := Aside0.mk (own_below HO.out hb_); have HR_ := Aside0.mk (Own1.below HR.out hb_); clear HI HO HR; have HI := HI_; have HO := HO_; have HR := HR_; clear HI_ HO_ HR_; have HB_ := Aside0.mk (HB.out.trans (hb_.mono HB.out.size)); have HX_ := Aside0.mk ((hb_.block _ (Array.getElem?_eq_some_iff.1 HX.out).1).trans HX.out); clear hb_ HB HX z0 z1 z2 z3 z4; have HB := HB_; have HX := HX_; clear HB_ HX_; have z0 := cells_at HX.out 0 _ rfl; have z1 := cells_at HX.out 1 _ rfl; have z2 := cells_at HX.out 2 _ rfl; have z3 := cells_at HX.out 3 _ rfl; have z4 := cells_at HX.out 4 _ rfl)) | (go_at_call 42; ((with_reducible refine (spec_kIn.calls _ Af cf fol _ _ _ (Kd.C_below HCF.out HB.out) hcf HKF.out).mono ?_); rintro _ W_ ⟨rfl, hd_⟩; have hb_ := hd_.below; clear hd_; have HI_ := Aside0.mk ((hb_.block _ (Array.getElem?_eq_some_iff.1 HI.out).1).trans HI.out); have HO_ := Aside0.mk (own_below HO.out hb_); have HR_ := Aside0.mk (Own1.below HR.out hb_); clear HI HO HR; have HI := HI_; have HO := HO_; have HR := HR_; clear HI_ HO_ HR_; have HB_ := Aside0.mk (HB.out.trans (hb_.mono HB.out.size)); have HX_ := Aside0.mk ((hb_.block _ (Array.getElem?_eq_some_iff.1 HX.out).1).trans HX.out); clear hb_ HB HX z0 z1 z2 z3 z4; have HB := HB_; have HX := HX_; clear HB_ HX_; have z0 := cells_at HX.out 0 _ rfl; have z1 := cells_at HX.out 1 _ rfl; have z2 := cells_at HX.out 2 _ rfl; have z3 := cells_at HX.out 3 _ rfl; have z4 := cells_at HX.out 4 _ rfl)))
                  go_meet
                  case rel => exact ⟨rfl, HI, HO, HR, HB, HX⟩
                | false =>
                  cases dF with
                  | true =>
                    go_wp2_with (first | (go_at_call 42; ((with_reducible refine (spec_kIn.calls _ Ad cd del _ _ _ (Kd.C_below HCD.out HB.out) hcd HKD.out).mono ?_); rintro _ W_ ⟨rfl, hd_⟩; have hb_ := hd_.below; clear hd_; have HI_ := Aside0.mk ((hb_.block _ (Array.getElem?_eq_some_iff.1 HI.out).1).trans HI.out); have HO_ := Aside0.mk (own_below HO.out hb_); have HR_ := Aside0.mk (Own1.below HR.out hb_); clear HI HO HR; have HI := HI_; have HO := HO_; have HR := HR_; clear HI_ HO_ HR_; have HB_ := Aside0.mk (HB.out.trans (hb_.mono HB.out.size)); have HX_ := Aside0.mk ((hb_.block _ (Array.getElem?_eq_some_iff.1 HX.out).1).trans HX.out); clear hb_ HB HX z0 z1 z2 z3 z4; have HB := HB_; have HX := HX_; clear HB_ HX_; have z0 := cells_at HX.out 0 _ rfl; have z1 := cells_at HX.out 1 _ rfl; have z2 := cells_at HX.out 2 _ rfl; have z3 := cells_at HX.out 3 _ rfl; have z4 := cells_at HX.out 4 _ rfl)) | (go_at_call 42; ((with_reducible refine (spec_kIn.calls _ Af cf fol _ _ _ (Kd.C_below HCF.out HB.out) hcf HKF.out).mono ?_); rintro _ W_ ⟨rfl, hd_⟩; have hb_ := hd_.below; clear hd_; have HI_ := Aside0.mk ((hb_.block _ (Array.getElem?_eq_some_iff.1 HI.out).1).trans HI.out); have HO_ := Aside0.mk (own_below HO.out hb_); have HR_ := Aside0.mk (Own1.below HR.out hb_); clear HI HO HR; have HI := HI_; have HO := HO_; have HR := HR_; clear HI_ HO_ HR_; have HB_ := Aside0.mk (HB.out.trans (hb_.mono HB.out.size)); have HX_ := Aside0.mk ((hb_.block _ (Array.getElem?_eq_some_iff.1 HX.out).1).trans HX.out); clear hb_ HB HX z0 z1 z2 z3 z4; have HB := HB_; have HX := HX_; clear HB_ HX_; have z0 := cells_at HX.out 0 _ rfl; have z1 := cells_at HX.out 1 _ rfl; have z2 := cells_at HX.out 2 _ rfl; have z3 := cells_at HX.out 3 _ rfl; have z4 := cells_at HX.out 4 _ rfl)))
                    go_meet
                    case rel => exact ⟨rfl, HI, HO, HR, HB, HX⟩
                  | false =>
                    go_wp2_with (first | (go_at_call 42; ((with_reducible refine (spec_kIn.calls _ Ad cd del _ _ _ (Kd.C_below HCD.out HB.out) hcd HKD.out).mono ?_); rintro _ W_ ⟨rfl, hd_⟩; have hb_ := hd_.below; clear hd_; have HI_ := Aside0.mk ((hb_.block _ (Array.getElem?_eq_some_iff.1 HI.out).1).trans HI.out); have HO_ := Aside0.mk (own_below HO.out hb_); have HR_ := Aside0.mk (Own1.below HR.out hb_); clear HI HO HR; have HI := HI_; have HO := HO_; have HR := HR_; clear HI_ HO_ HR_; have HB_ := Aside0.mk (HB.out.trans (hb_.mono HB.out.size)); have HX_ := Aside0.mk ((hb_.block _ (Array.getElem?_eq_some_iff.1 HX.out).1).trans HX.out); clear hb_ HB HX z0 z1 z2 z3 z4; have HB := HB_; have HX := HX_; clear HB_ HX_; have z0 := cells_at HX.out 0 _ rfl; have z1 := cells_at HX.out 1 _ rfl; have z2 := cells_at HX.out 2 _ rfl; have z3 := cells_at HX.out 3 _ rfl; have z4 := cells_at HX.out 4 _ rfl)) | (go_at_call 42; ((with_reducible refine (spec_kIn.calls _ Af cf fol _ _ _ (Kd.C_below HCF.out HB.out) hcf HKF.out).mono ?_); rintro _ W_ ⟨rfl, hd_⟩; have hb_ := hd_.below; clear hd_; have HI_ := Aside0.mk ((hb_.block _ (Array.getElem?_eq_some_iff.1 HI.out).1).trans HI.out); have HO_ := Aside0.mk (own_below HO.out hb_); have HR_ := Aside0.mk (Own1.below HR.out hb_); clear HI HO HR; have HI := HI_; have HO := HO_; have HR := HR_; clear HI_ HO_ HR_; have HB_ := Aside0.mk (HB.out.trans (hb_.mono HB.out.size)); have HX_ := Aside0.mk ((hb_.block _ (Array.getElem?_eq_some_iff.1 HX.out).1).trans HX.out); clear hb_ HB HX z0 z1 z2 z3 z4; have HB := HB_; have HX := HX_; clear HB_ HX_; have z0 := cells_at HX.out 0 _ rfl; have z1 := cells_at HX.out 1 _ rfl; have z2 := cells_at HX.out 2 _ rfl; have z3 := cells_at HX.out 3 _ rfl; have z4 := cells_at HX.out 4 _ rfl)))
                    go_meet
                    case rel => exact ⟨rfl, HI, HO, HR, HB, HX⟩
            case rest =>
              obtain ⟨rfl, HI, HO, HR, HB, HX⟩ := hcut
              clear z0 z1 z2 z3 z4
              have z0 := cells_at HX.out 0 _ rfl; have z1 := cells_at HX.out 1 _ rfl; have z2 := cells_at HX.out 2 _ rfl; have z3 := cells_at HX.out 3 _ rfl; have z4 := cells_at HX.out 4 _ rfl
              cases hv : (ended && !dD && !dF) with
              | true =>
                simp only [Bool.and_eq_true, Bool.not_eq_true'] at hv
                obtain ⟨⟨rfl, rfl⟩, rfl⟩ := hv
                have HS2 := Aside0.mk (HS.out.symm.trans (sl_b hp HRS.out hsp HdD.out HdF.out))
                go_wp2_with (go_at_call 43; refine (moved_calls _ g ca st D _ _ out HO.out la HR.out.C (by omega) (by omega)).mono ?_; rintro _ W_ ⟨rfl, hk_, ho_⟩; have HO_ := Aside0.mk ho_; have HR_ := Aside0.mk (Own1.kept HR.out (fun k hk hl => hk_.old k hl (by have := HIT.out.2; omega))); have HB_ := Aside0.mk (kp_below HB.out hk_ g0b HB.out.size); clear hk_ ho_ HO HR HB z0 z1 z2 z3 z4; have HO := HO_; have HR := HR_; have HB := HB_; clear HO_ HR_ HB_)
                (try simp only [Exit.inBlock, Exit.then]); refine bodyPost_ret (results_tmp5 rfl _ _ _) rfl ?_
                exact fin_ans HB.out HSaid.out HNE.out (HANS.out.trans (HS2.out)) h0 (by omega) ⟨_, _, rfl, own_cap HR.out, HR.out.C⟩ HO.out la hn
              | false =>
                have HS1 := (sl_e hp HRS.out hsp (by rw [HdD.out, HdF.out]; exact hv)).symm.trans HS.out
                rw [HdD.out] at HS1
                have HS2 : Aside0 (sloop ⟨del, fol, skip, dbl, most⟩ D fin k9 (p + sz) st (out ++ seg D p sz) (cnt + 1) (ended || (dD || decide (most ≤ ((cnt + 1 : Nat) : Int)))) feeds last = ANS) := ⟨HS1⟩
                clear HS1 hv
                go_upto_region 28 with ((with_reducible refine gate_builtin (b := .append) rfl ?_); at_builtin; refine print_append_str (w0 := _) (it + 1) rfl (.tmp 109) (.tmp 115) 22 9 5 rfl Tryd.underlying22 Tryd.underlying9 (by kernel_rfl) _ out (D.extract p (p + sz)) rfl ?cX HR.out (Below.refl _ _) ?cB ?cL ?_; (case cX => first | rfl | (go_simp; done) | (go_simp; rfl)); (case cB => exact (Array.getElem?_eq_some_iff.1 HI.out).1); (case cL => rw [ByteArray.size_extract]; omega); intro v1 W_ hown hbel hgr; obtain ⟨A1, c1, rfl, _⟩ := own_reads hown; rw [bytesOf_ext D p sz q2] at hown ⊢; have HB_ := Aside0.mk (HB.out.grown hgr HB.out.size (fun k hk => by have h1 := own_base HR.out k hk; have h2 := HIT.out.1; omega)); have HI_ := Aside0.mk ((hbel.block it (by omega)).trans HI.out); have HX_ := Aside0.mk ((hbel.block w.heap.size (by have := HIT.out.1; omega)).trans HX.out); have HO_ : Aside0 (Own0 W_ g D.size (by' D)) := ⟨by obtain ⟨cs, t, x1, x2⟩ := HO.out; exact ⟨cs, t, (hbel.block g (by have := HIT.out.2; omega)).trans x1, x2⟩⟩; have HR_ : Aside0 (Own1 W_ it A1 c1 (out ++ seg D p sz)) := ⟨hown⟩; clear hown hbel hgr HB HI HX HO HR z0 z1 z2 z3 z4; have HB := HB_; have HI := HI_; have HX := HX_; have HO := HO_; have HR := HR_; clear HB_ HI_ HX_ HO_ HR_; have z0 := cells_at HX.out 0 _ rfl; have z1 := cells_at HX.out 1 _ rfl; have z2 := cells_at HX.out 2 _ rfl; have z3 := cells_at HX.out 3 _ rfl; have z4 := cells_at HX.out 4 _ rfl)
                go_cut [132] (fun y132 wc => y132 = .bool (!ended && (dD || decide (most ≤ ((cnt + 1 : Nat) : Int)))) ∧ Aside0 (wc.heap[it]? = some (.stringIter D (p + sz))) ∧ Aside0 (Own0 wc g D.size (by' D)) ∧ Aside0 (Own1 wc it A1 c1 (out ++ seg D p sz)) ∧ Aside0 (Below w.heap.size w wc) ∧ Aside0 (wc.heap[w.heap.size]? = some (.cells (sv ⟨del, fol, skip, dbl, most⟩ Ad Af cd cf) 38 (0, 0))))
                case first =>
                  cases ended with
                  | true =>
                    go_wp2_with fail
                    go_meet
                    case rel => exact ⟨rfl, HI, HO, HR, HB, HX⟩
                  | false =>
                    cases dD with
                    | true =>
                      go_wp2_with (go_at_call 42; ((with_reducible refine (spec_kIn.calls _ Ad cd del _ _ _ (Kd.C_below HCD.out HB.out) hcd HKD.out).mono ?_); rintro _ W_ ⟨rfl, hd_⟩; have hb_ := hd_.below; clear hd_; have HI_ := Aside0.mk ((hb_.block _ (Array.getElem?_eq_some_iff.1 HI.out).1).trans HI.out); have HO_ := Aside0.mk (own_below HO.out hb_); have HR_ := Aside0.mk (Own1.below HR.out hb_); clear HI HO HR; have HI := HI_; have HO := HO_; have HR := HR_; clear HI_ HO_ HR_; have HB_ := Aside0.mk (HB.out.trans (hb_.mono HB.out.size)); have HX_ := Aside0.mk ((hb_.block _ (Array.getElem?_eq_some_iff.1 HX.out).1).trans HX.out); clear hb_ HB HX z0 z1 z2 z3 z4; have HB := HB_; have HX := HX_; clear HB_ HX_; have z0 := cells_at HX.out 0 _ rfl; have z1 := cells_at HX.out 1 _ rfl; have z2 := cells_at HX.out 2 _ rfl; have z3 := cells_at HX.out 3 _ rfl; have z4 := cells_at HX.out 4 _ rfl))
                      go_meet
                      case rel => exact ⟨rfl, HI, HO, HR, HB, HX⟩
                    | false =>
                      by_cases hm : most ≤ (cnt : Int) + 1
                      · have hmb : ((cnt + 1 : Nat) : Int) = (cnt : Int) + 1 := by omega
                        go_wp2_with (go_at_call 42; ((with_reducible refine (spec_kIn.calls _ Ad cd del _ _ _ (Kd.C_below HCD.out HB.out) hcd HKD.out).mono ?_); rintro _ W_ ⟨rfl, hd_⟩; have hb_ := hd_.below; clear hd_; have HI_ := Aside0.mk ((hb_.block _ (Array.getElem?_eq_some_iff.1 HI.out).1).trans HI.out); have HO_ := Aside0.mk (own_below HO.out hb_); have HR_ := Aside0.mk (Own1.below HR.out hb_); clear HI HO HR; have HI := HI_; have HO := HO_; have HR := HR_; clear HI_ HO_ HR_; have HB_ := Aside0.mk (HB.out.trans (hb_.mono HB.out.size)); have HX_ := Aside0.mk ((hb_.block _ (Array.getElem?_eq_some_iff.1 HX.out).1).trans HX.out); clear hb_ HB HX z0 z1 z2 z3 z4; have HB := HB_; have HX := HX_; clear HB_ HX_; have z0 := cells_at HX.out 0 _ rfl; have z1 := cells_at HX.out 1 _ rfl; have z2 := cells_at HX.out 2 _ rfl; have z3 := cells_at HX.out 3 _ rfl; have z4 := cells_at HX.out 4 _ rfl))
                        go_meet
                        case rel => exact ⟨by first | (simp; done) | (simp; omega) | (simp [hm]; done), HI, HO, HR, HB, HX⟩
                      · have hmb : ((cnt + 1 : Nat) : Int) = (cnt : Int) + 1 := by omega
                        go_wp2_with (go_at_call 42; ((with_reducible refine (spec_kIn.calls _ Ad cd del _ _ _ (Kd.C_below HCD.out HB.out) hcd HKD.out).mono ?_); rintro _ W_ ⟨rfl, hd_⟩; have hb_ := hd_.below; clear hd_; have HI_ := Aside0.mk ((hb_.block _ (Array.getElem?_eq_some_iff.1 HI.out).1).trans HI.out); have HO_ := Aside0.mk (own_below HO.out hb_); have HR_ := Aside0.mk (Own1.below HR.out hb_); clear HI HO HR; have HI := HI_; have HO := HO_; have HR := HR_; clear HI_ HO_ HR_; have HB_ := Aside0.mk (HB.out.trans (hb_.mono HB.out.size)); have HX_ := Aside0.mk ((hb_.block _ (Array.getElem?_eq_some_iff.1 HX.out).1).trans HX.out); clear hb_ HB HX z0 z1 z2 z3 z4; have HB := HB_; have HX := HX_; clear HB_ HX_; have z0 := cells_at HX.out 0 _ rfl; have z1 := cells_at HX.out 1 _ rfl; have z2 := cells_at HX.out 2 _ rfl; have z3 := cells_at HX.out 3 _ rfl; have z4 := cells_at HX.out 4 _ rfl))
                        go_meet
                        case rel => exact ⟨by first | (simp; done) | (simp; omega) | (simp [hm]; done), HI, HO, HR, HB, HX⟩
                case rest =>
                  obtain ⟨rfl, HI, HO, HR, HB, HX⟩ := hcut
                  clear z0 z1 z2 z3 z4
                  have z0 := cells_at HX.out 0 _ rfl; have z1 := cells_at HX.out 1 _ rfl; have z2 := cells_at HX.out 2 _ rfl; have z3 := cells_at HX.out 3 _ rfl; have z4 := cells_at HX.out 4 _ rfl
                  cases h132 : (!ended && (dD || decide (most ≤ ((cnt + 1 : Nat) : Int)))) with
                  | true =>
                    have e : (ended || (dD || decide (most ≤ ((cnt + 1 : Nat) : Int)))) = true := by revert h132; cases ended <;> simp
                    rw [e] at HS2
                    clear h132 e
                    go_wp2_with fail
                    go_roundg k9
                    case measure => omega
                    case rel => exact ⟨p + sz, st, cnt + 1, feeds, last, out ++ seg D p sz, true, _, _, (by first | rfl | (rw [List.length_append])), int_eq (by omega), int_eq (by omega), rfl, int_eq (by omega), int_eq (by omega), ⟨by (try simp only [List.length_nil, List.length_append, seg_len]); refine ⟨?_, ?_, ?_, ?_, ?_, ?_, ?_⟩ <;> first | omega | (intro e; have := m6 e; omega) | (intro e; exact ⟨by omega, by omega⟩) | (intro e; exfalso; omega) | simp⟩, HR, HS2, HN2, HI, HO, HB, HX⟩
                  | false =>
                    have e : (ended || (dD || decide (most ≤ ((cnt + 1 : Nat) : Int)))) = ended := by revert h132; cases ended <;> simp
                    rw [e] at HS2
                    clear h132 e
                    go_wp2_with fail
                    go_roundg k9
                    case measure => omega
                    case rel => exact ⟨p + sz, st, cnt + 1, feeds, last, out ++ seg D p sz, ended, _, _, (by first | rfl | (rw [List.length_append])), int_eq (by omega), int_eq (by omega), rfl, int_eq (by omega), int_eq (by omega), ⟨by (try simp only [List.length_nil, List.length_append, seg_len]); refine ⟨?_, ?_, ?_, ?_, ?_, ?_, ?_⟩ <;> first | omega | (intro e; have := m6 e; omega) | (intro e; exact ⟨by omega, by omega⟩) | (intro e; exfalso; omega) | simp⟩, HR, HS2, HN2, HI, HO, HB, HX⟩
      · have hpe : p = D.size := by omega
        cases gk with
        | zero => omega
        | succ k9 =>
        have z0 := cells_at HX.out 0 _ rfl; have z1 := cells_at HX.out 1 _ rfl; have z2 := cells_at HX.out 2 _ rfl; have z3 := cells_at HX.out 3 _ rfl; have z4 := cells_at HX.out 4 _ rfl
        have hnx : ∀ ty, (Instr.next (.pointer (some ⟨it, 0, none⟩)) true ty).run Tryd.prog wr = .ok (.tuple #[.bool false]) wr := fun ty => Lib.run_next_end_at wr it D p ty HI.out hp
        go_upto_region 30 with fail
        clear hnx
        go_upto_region 31 with (go_at_call 43; refine (moved_calls _ g ca st D _ _ out HO.out la HR.out.C (by omega) (by omega)).mono ?_; rintro _ W_ ⟨rfl, hk_, ho_⟩; have HO_ := Aside0.mk ho_; have HR_ := Aside0.mk (Own1.kept HR.out (fun k hk hl => hk_.old k hl (by have := HIT.out.2; omega))); have HB_ := Aside0.mk (kp_below HB.out hk_ g0b HB.out.size); clear hk_ ho_ HO HR HB z0 z1 z2 z3 z4; have HO := HO_; have HR := HR_; have HB := HB_; clear HO_ HR_ HB_)
        have hnil := fun (W : World) => Lib.run_eql_slice_nil (P := Tryd.prog) W 22 5 Ao out.length co 0 0 Tryd.underlying22
        cases he : (ended || fin) with
        | true =>
          have HS2 := Aside0.mk (HS.out.symm.trans (sl_end1 hp (by simpa using he)))
          cases Ao with
          | some ad =>
            simp only [Option.isNone_some] at hnil
            cases ended with
            | true =>
              go_wp2_with fail
              (try simp only [Exit.inBlock, Exit.then]); refine bodyPost_ret (results_tmp5 rfl _ _ _) rfl ?_
              exact fin_ans HB.out HSaid.out HNE.out (HANS.out.trans (HS2.out)) h0 (by omega) ⟨_, _, rfl, own_cap HR.out, HR.out.C⟩ HO.out la hn
            | false =>
              obtain rfl : fin = true := by simpa using he
              go_wp2_with fail
              (try simp only [Exit.inBlock, Exit.then]); refine bodyPost_ret (results_tmp5 rfl _ _ _) rfl ?_
              exact fin_ans HB.out HSaid.out HNE.out (HANS.out.trans (HS2.out)) h0 (by omega) ⟨_, _, rfl, own_cap HR.out, HR.out.C⟩ HO.out la hn
          | none =>
            simp only [Option.isNone_none] at hnil
            have ho : out = [] := by
              rcases HR.out.2 with ⟨_, h⟩ | ⟨q, _, _, h, _⟩
              · exact List.length_eq_zero_iff.1 h
              · cases h
            have Hho := Aside0.mk ho
            clear ho
            cases ended with
            | true =>
              go_wp2_with fail
              (try simp only [Exit.inBlock, Exit.then]); refine bodyPost_ret (results_tmp5 rfl _ _ _) rfl ?_
              exact fin_ans (below_alloc HB.out _) HSaid.out HNE.out (HANS.out.trans HS2.out) h0 (by omega) ⟨_, _, (by rw [Hho.out]; rfl), (by rw [Hho.out]; exact Nat.zero_le _), (by rw [Hho.out]; exact ⟨rfl, by simp, fun h => absurd h (Nat.lt_irrefl _)⟩)⟩ (own_below HO.out (below_alloc (Below.refl _ _) _)) la hn
            | false =>
              obtain rfl : fin = true := by simpa using he
              go_wp2_with fail
              (try simp only [Exit.inBlock, Exit.then]); refine bodyPost_ret (results_tmp5 rfl _ _ _) rfl ?_
              exact fin_ans (below_alloc HB.out _) HSaid.out HNE.out (HANS.out.trans HS2.out) h0 (by omega) ⟨_, _, (by rw [Hho.out]; rfl), (by rw [Hho.out]; exact Nat.zero_le _), (by rw [Hho.out]; exact ⟨rfl, by simp, fun h => absurd h (Nat.lt_irrefl _)⟩)⟩ (own_below HO.out (below_alloc (Below.refl _ _) _)) la hn
        | false =>
          simp only [Bool.or_eq_false_iff] at he
          obtain ⟨rfl, rfl⟩ := he
          have HS2 := Aside0.mk (HS.out.symm.trans (sl_end2 hp (by simp)))
          clear hnil
          go_wp2_with fail
          go_loopg [23] (D.size - (st + out.length)) (fun kz y w' => ∃ i : Nat, y = .int .i64 i ∧ Aside0 (st + out.length ≤ i ∧ i + kz = D.size) ∧ Aside0 (Own0 w' g D.size (fun j => if st + out.length ≤ j ∧ j < i then 32 else mem D st out j)) ∧ Aside0 (Below w.heap.size w w'))
          case atStart => exact ⟨st + out.length, int_eq (by omega), ⟨by omega⟩, ⟨by obtain ⟨cs, t, x1, x2⟩ := HO.out; exact ⟨cs, t, x1, fun j hj => by show _ = some (Value.int .u8 (if st + out.length ≤ j ∧ j < st + out.length then 32 else mem D st out j)); rw [if_neg (by omega)]; exact x2 j hj⟩⟩, HB⟩
          case round =>
            clear HO HB HR
            obtain ⟨i, rfl, HZ, HO, HB⟩ := hrel
            obtain ⟨y1, y2⟩ := HZ.out
            by_cases hi : i < D.size
            · have hid : (i : Int) < (D.size : Int) := by omega
              have x1 := own0_cell HO.out i hi
              have x2 := own0_froz HO.out i
              cases gk with
              | zero => omega
              | succ kz =>
              go_wp2_with fail
              go_roundg kz
              case measure => omega
              case rel => exact ⟨i + 1, int_eq (by omega), ⟨by omega⟩, ⟨by obtain ⟨cs, t, x1, x2⟩ := own0_put HO.out i hi 32; exact ⟨cs, t, x1, fun j hj => by rw [x2 j hj]; congr 2; by_cases e : j = i <;> by_cases e2 : st + out.length ≤ j <;> by_cases e3 : j < i <;> simp [e, e2, e3] <;> omega⟩⟩, ⟨HB.out.setCell g0b _⟩⟩
            · have hid : ¬ (i : Int) < (D.size : Int) := by omega
              go_wp2_with fail
              (try simp only [Exit.inBlock, Exit.then]); refine bodyPost_ret (results_tmp5 rfl _ _ _) rfl ?_
              exact fin_ans2 HB.out HSaid.out HNE.out (HANS.out.trans HS2.out) h0 (by obtain ⟨cs, t, x1, x2⟩ := HO.out; exact ⟨cs, t, x1, fun j hj => by rw [x2 j hj]; congr 2; by_cases e2 : st + out.length ≤ j <;> simp [e2] <;> omega⟩) la hn
end Go.Proofs.YtckdpckdabfkbabDoor.Scan
namespace Go.Proofs.YtckdpckdabfkbabDoor.Scan
open Go.RowKit Go.Proofs.YtckdpckdabfkbabDoorW.PrintWords Go.Proofs.YtckdpckdabfkbabDoor.Plain Go.Proofs.YtckdpckdabfkbabDoor.Num Go.Proofs.YtckdpckdabfkbabDoor.PC
set_option linter.unusedVariables false
set_option linter.unusedSimpArgs false
set_option maxHeartbeats 16000000 in
set_option maxRecDepth 100000 in
theorem scan_none (fin : Bool) (w : World) (S : Sp) (Ad Af : Option Addr) (cd cf : Nat) (A : Option Addr) (c : Nat) :
    Calls Tryd.prog 37 #[.agg (sv S Ad Af cd cf), .slice A 0 c, .bool fin] w fun e w' =>
      e = .returned (.tuple #[.int .i64 0, .slice none 0 0, .nilIface]) ∧ Below w.heap.size w w' := by
  obtain ⟨del, fol, skip, dbl, most⟩ := S
  obtain ⟨w1, hw1⟩ : ∃ w1, w1 = w.alloc (.cells (sv ⟨del, fol, skip, dbl, most⟩ Ad Af cd cf) 81) := ⟨_, rfl⟩
  have HB : Aside0 (Below w.heap.size w w1) := ⟨by rw [hw1]; exact below_alloc (Below.refl _ _) _⟩
  cases fin with
  | true =>
    go_enter Tryd.func37, Tryd.ntmps37
    go_wp2_with fail
    rw [← hw1]
    clear hw1
    go_wp2_with fail
    go_ret3
    exact ⟨rfl, HB.out⟩
  | false =>
    go_enter Tryd.func37, Tryd.ntmps37
    go_wp2_with fail
    rw [← hw1]
    clear hw1
    go_wp2_with fail
    go_loopg [9, 10, 14] 0 (fun kq y9 y10 y14 w' => y9 = .int .i64 0 ∧ y10 = .int .i64 0 ∧ y14 = .int .i64 0 ∧ Aside0 (Below w.heap.size w w'))
    case atStart => exact ⟨rfl, rfl, rfl, HB⟩
    case round =>
      clear HB
      obtain ⟨rfl, rfl, rfl, HB⟩ := hrel
      go_wp2_with fail
      go_loopg [21] 0 (fun kq y w' => y = .int .i64 0 ∧ Aside0 (Below w.heap.size w w'))
      case atStart => exact ⟨rfl, HB⟩
      case round =>
        clear HB
        obtain ⟨rfl, HB⟩ := hrel
        go_wp2_with fail
        go_ret3
        exact ⟨rfl, HB.out⟩
end Go.Proofs.YtckdpckdabfkbabDoor.Scan
namespace Go.Proofs.YtckdpckdabfkbabDoor.Scan
open Go.RowKit Go.Proofs.YtckdpckdabfkbabDoorW.PrintWords Go.Proofs.YtckdpckdabfkbabDoor.Plain Go.Proofs.YtckdpckdabfkbabDoor.Num Go.Proofs.YtckdpckdabfkbabDoor.PC
set_option linter.unusedVariables false
set_option linter.unusedSimpArgs false
set_option maxHeartbeats 16000000 in
set_option maxRecDepth 100000 in
theorem scanJ_calls (fin : Bool) (w : World) (S : Sp) (Ad Af : Option Addr) (cd cf : Nat) (A : Option Addr) (c : Nat) (hd : (Kd.int .i32).C w Ad S.del.length S.del) (hcd : S.del.length ≤ cd) (hf : (Kd.int .i32).C w Af S.fol.length S.fol) (hcf : S.fol.length ≤ cf) (hl1 : S.del.length ≤ 2147483647) (hl2 : S.fol.length ≤ 2147483647)
    (hA : (Kd.int .u8).C w A 0 []) :
    Calls Tryd.prog 21 #[.agg (sv S Ad Af cd cf), .slice A 0 c, .bool fin] w fun e w' => ∃ (v : Value) (Ab : Option Addr) (cb : Nat), e = .returned (.tuple #[.int .i64 0, v, .bool false, .slice Ab 0 cb]) ∧ Kd.R (Kd.int .u8) 5 w' w.heap.size (fun _ => True) v [] ∧ Below w.heap.size w w' := by
  obtain ⟨del, fol, skip, dbl, most⟩ := S
  obtain ⟨w1, hw1⟩ : ∃ w1, w1 = w.alloc (.cells (sv ⟨del, fol, skip, dbl, most⟩ Ad Af cd cf) 38) := ⟨_, rfl⟩
  have HB : Aside0 (Below w.heap.size w w1) := ⟨by rw [hw1]; exact below_alloc (Below.refl _ _) _⟩
  have HX : Aside0 (w1.heap[w.heap.size]? = some (.cells (sv ⟨del, fol, skip, dbl, most⟩ Ad Af cd cf) 38 (0, 0))) := ⟨by rw [hw1]; exact blk_new w _⟩
  have HCD := Aside0.mk hd
  have HCF := Aside0.mk hf
  have HK := Aside0.mk (slices_Clone_byte_byte.calls A c [] [] w1 (Kd.C_below hA HB.out) (Nat.zero_le _) (cloneb_f [] (by simp)))
  clear hd hf hA
  go_enter Tryd.func21, Tryd.ntmps21
  go_wp2_with fail
  rw [← hw1]
  clear hw1
  refine HK.out.mono ?_
  rintro _ W1 ⟨v0, rfl, hr0, hb0⟩
  obtain ⟨A2, c2, e0, _, _⟩ := Kd.R_reads hr0
  simp only [List.length_nil] at e0
  subst e0
  have HB1 := Aside0.mk (HB.out.trans (hb0.mono HB.out.size))
  have HX1 : Aside0 (W1.heap[w.heap.size]? = some (.cells (sv ⟨del, fol, skip, dbl, most⟩ Ad Af cd cf) 38 (0, 0))) := ⟨(hb0.block _ (Array.getElem?_eq_some_iff.1 HX.out).1).trans HX.out⟩
  clear hr0 hb0 HB HX HK
  have z0 := cells_at HX1.out 0 _ rfl; have z1 := cells_at HX1.out 1 _ rfl; have z2 := cells_at HX1.out 2 _ rfl; have z3 := cells_at HX1.out 3 _ rfl; have z4 := cells_at HX1.out 4 _ rfl
  have HCall := Aside0.mk (impl_splitterOf.calls Ad cd del Af cf fol skip dbl most _ _ _ _ _ W1 (Kd.C_below HCD.out HB1.out) hcd (Kd.C_below HCF.out HB1.out) hcf (split_f _ _ _ _ _ hl1 hl2))
  go_wp2_with fail
  refine HCall.out.mono ?_
  rintro _ W2 ⟨v0_, v1_, rfl, q0, q1, qb⟩
  obtain ⟨A0, c0, rfl, _, _⟩ := Kd.R_reads q0
  obtain ⟨A1, c1, rfl, _, _⟩ := Kd.R_reads q1
  have HB2 := Aside0.mk (HB1.out.trans (qb.mono HB1.out.size))
  have HScan := Aside0.mk (scan_none fin W2 ⟨del, fol, skip, dbl, most⟩ A0 A1 c0 c1 A2 c2)
  clear q0 q1 qb z0 z1 z2 z3 z4 HCall HX1 HB1
  go_wp2_with fail
  refine HScan.out.mono ?_
  rintro _ W3 ⟨rfl, hb3⟩
  have HB3 := Aside0.mk (HB2.out.trans (hb3.mono HB2.out.size))
  have HCl := Aside0.mk (slices_Clone_byte_byte.calls none 0 [] [] W3 (Kd.C_nil _ _) (Nat.le_refl _) (cloneb_f [] (by simp)))
  clear HScan HB2 hb3
  go_wp2_with fail
  refine HCl.out.mono ?_
  rintro _ W4 ⟨v4, rfl, hr4, hb4⟩
  have HR4 := Aside0.mk (Kd.R_lower hr4 HB3.out.size)
  have HB4 := Aside0.mk (HB3.out.trans (hb4.mono HB3.out.size))
  clear hr4 hb4 HCl
  go_wp2_with fail
  (try simp only [Exit.inBlock, Exit.then]); refine bodyPost_ret (results_tmp4 rfl _ _ _) rfl ?_
  exact ⟨v4, A2, c2, rfl, HR4.out, HB4.out⟩
end Go.Proofs.YtckdpckdabfkbabDoor.Scan
namespace Go.Proofs.YtckdpckdabfkbabDoor.Tabs
open Go.RowKit Go.Lib
set_option linter.unusedVariables false
set_option linter.unusedSimpArgs false
noncomputable def tF : Nat := ((Tryd.prog.globals[1]?).map (·.type)).getD 0
noncomputable def tA : Nat := ((Tryd.prog.globals[2]?).map (·.type)).getD 0
noncomputable def elemOf (t : Nat) : Nat := match Tryd.prog.underlying t with
  | some (.array _ e) => e
  | _ => 0
noncomputable def u8 : Nat := elemOf tF
theorem n3 : Tryd.prog.globalNamed "unicode/utf8.first" = some 1 := by kernel_rfl
theorem n4 : Tryd.prog.globalNamed "unicode/utf8.acceptRanges" = some 2 := by kernel_rfl
theorem y3 : (Tryd.prog.globals[1]?).map (·.type) = some tF := by kernel_rfl
theorem y4 : (Tryd.prog.globals[2]?).map (·.type) = some tA := by kernel_rfl
theorem t119 : Tryd.prog.underlying tF = some (.array 256 u8) := by kernel_rfl
theorem t5 : Tryd.prog.underlying u8 = some (.int .u8) := by kernel_rfl
theorem t139 : Tryd.prog.underlying tA = some (.array 16 (elemOf tA)) := by kernel_rfl
noncomputable def fieldsOf (t : Nat) : Array Field := match Tryd.prog.underlying t with
  | some (.struct fs) => fs
  | _ => #[]
theorem t138 : Tryd.prog.underlying (elemOf tA) = some (.struct (fieldsOf (elemOf tA))) := by kernel_rfl
theorem c5 : Tryd.prog.cellsOf u8 = 1 := by kernel_rfl
theorem c119 : Tryd.prog.cellsOf tF = 256 := by kernel_rfl
theorem c138 : Tryd.prog.cellsOf (elemOf tA) = 2 := by kernel_rfl
theorem fm : (fieldsOf (elemOf tA)).toList.map (fun f => (Tryd.prog.underlying f.type, f.offset, Tryd.prog.cellsOf f.type)) = [(some (.int .u8), 0, 1), (some (.int .u8), 1, 1)] := by kernel_rfl
theorem fss : (fieldsOf (elemOf tA)).size = 2 := by kernel_rfl
theorem fields_of {X : Type} (fs : Array Field) (g : Field → X) (l : List X) (h : fs.toList.map g = l) (j : Nat) (f : Field) (hj : fs[j]? = some f) : l[j]? = some (g f) := by
  rw [← h, List.getElem?_map, Array.getElem?_toList, hj]; rfl
theorem two_of {X : Type} {a b c : X} {j : Nat} (h : [a, b][j]? = some c) : (j = 0 ∧ a = c) ∨ (j = 1 ∧ b = c) := by
  match j, h with
  | 0, h => exact Or.inl ⟨rfl, Option.some.inj h⟩
  | 1, h => exact Or.inr ⟨rfl, Option.some.inj h⟩
  | j + 2, h => simp at h
theorem fields_gen (u : Nat → Option TypeDesc) (c : Nat → Nat) (fs : Array Field) (h : fs.toList.map (fun f => (u f.type, f.offset, c f.type)) = [(some (.int .u8), 0, 1), (some (.int .u8), 1, 1)]) (j : Nat) (f : Field) (hj : fs[j]? = some f) : u f.type = some (.int .u8) ∧ f.offset = j ∧ c f.type = 1 := by
  rcases two_of (fields_of _ _ _ h j f hj) with ⟨rfl, h⟩ | ⟨rfl, h⟩ <;>
  · simp only [Prod.mk.injEq] at h
    exact ⟨h.1.symm, h.2.1.symm, h.2.2.symm⟩
theorem fields (j : Nat) (f : Field) (hj : (fieldsOf (elemOf tA))[j]? = some f) : Tryd.prog.underlying f.type = some (.int .u8) ∧ f.offset = j ∧ Tryd.prog.cellsOf f.type = 1 :=
  fields_gen _ _ _ fm j f hj
theorem utf8Tabs {w : World} (h3 : VarReads Tryd.prog w "unicode/utf8.first" firstData) (h4 : VarReads Tryd.prog w "unicode/utf8.acceptRanges" acceptData) : Lib.Utf8Tabs 1 2 w := by
  refine ⟨fun c hc => ?_, fun i hi => ?_⟩
  · obtain ⟨g, t, cs, fuel, p, hg, hty, hvar, hd⟩ := h3
    obtain rfl := Option.some.inj (n3.symm.trans hg)
    obtain rfl := Option.some.inj (y3.symm.trans hty)
    have hcs := cells_of_tab t119 t5 c5 c119 hd
    have := World.var?_cell hg hvar c
    rw [this, ← Array.getElem?_toList, hcs]
    simp [firstTab, hc]
  · obtain ⟨g, t, cs, fuel, p, hg, hty, hvar, hd⟩ := h4
    obtain rfl := Option.some.inj (n4.symm.trans hg)
    obtain rfl := Option.some.inj (y4.symm.trans hty)
    obtain ⟨fuel', d, q, hdi, he⟩ := array_elem t139 hd i hi
    simp only [List.getElem?_map, List.getElem?_range hi, Option.map_some, Option.some.injEq] at hdi
    subst hdi
    rw [c138] at he
    have hcs := ints_of_struct t138 fields (by rw [c138, fss]) he
    have e0 := congrArg (·[0]?) hcs
    have e1 := congrArg (·[1]?) hcs
    simp only [List.getElem?_take, List.getElem?_drop] at e0 e1
    constructor
    · rw [World.var?_cell hg hvar (2 * i), ← Array.getElem?_toList]
      simpa [Nat.mul_comm] using e0
    · rw [World.var?_cell hg hvar (2 * i + 1), ← Array.getElem?_toList]
      simpa [Nat.mul_comm] using e1
theorem wx : Go.Proofs.WhiteExtra Tryd.prog Tryd.lays199_ren := ⟨by kernel_rfl, by kernel_rfl, by kernel_rfl, by kernel_rfl, by kernel_rfl, by kernel_rfl, by kernel_rfl, by kernel_rfl⟩
theorem whiteTab {w : World} (h6 : VarReads Tryd.prog w "unicode.White_Space" whiteData) : Lib.WhiteTab 0 w := Go.Proofs.whiteTab_of_reads Tryd.lays199 wx h6
theorem met {w : World} {l : List (String × DataW Unit)} (h : laidMet Tryd.prog l w) (h3 : ("unicode/utf8.first", firstData) ∈ l) (h4 : ("unicode/utf8.acceptRanges", acceptData) ∈ l) (h6 : ("unicode.White_Space", whiteData) ∈ l) :
    Lib.Utf8Tabs 1 2 w ∧ Lib.WhiteTab 0 w :=
  ⟨utf8Tabs (laidMet.reads h h3) (laidMet.reads h h4), whiteTab (laidMet.reads h h6)⟩
theorem d3 : Rows.laid_unicode_utf8_first = firstData := by kernel_rfl
theorem d4 : Rows.laid_unicode_utf8_acceptRanges = acceptData := by kernel_rfl
theorem d6 : Rows.laid_unicode_White_Space = whiteData := by kernel_rfl
end Go.Proofs.YtckdpckdabfkbabDoor.Tabs
namespace Go.Proofs.YtckdpckdabfkbabDoor.Scan
open Go.RowKit Go.Proofs.YtckdpckdabfkbabDoorW.PrintWords Go.Proofs.YtckdpckdabfkbabDoor.Plain Go.Proofs.YtckdpckdabfkbabDoor.Num Go.Proofs.YtckdpckdabfkbabDoor.PC
set_option linter.unusedVariables false
set_option linter.unusedSimpArgs false

theorem u8_info : (Tryd.prog.info? 5).map (·.size) = some 1 := by kernel_rfl
/-- The bytes of a slice without room behind, as the world at the beginning had them. -/
structure BS (w : World) (A : Option Addr) (l : List Int) : Prop where
  c : (Kd.int .u8).C w A l.length l
  n : l.length ≤ 9223372036854775807
  b : ∀ x ∈ l, 0 ≤ x ∧ x ≤ 255
theorem BS.drop {w : World} {A : Option Addr} {l : List Int} (h : BS w A l) (m : Nat) (hm : m ≤ l.length) : ∃ A2 l2, l2.length + m = l.length ∧ BS w A2 l2 ∧ ∀ W, (Instr.slice 22 (.slice A l.length l.length) (some (.int .i64 (m : Int))) none none).run Tryd.prog W = .ok (.slice A2 l2.length l2.length) W := by
  refine ⟨_, l.drop m, ?_, ⟨Kd.C_drop h.c hm (Nat.le_refl _), ?_, fun x hx => h.b x (List.mem_of_mem_drop hx)⟩, fun W => ?_⟩
  · rw [List.length_drop]; omega
  · rw [List.length_drop]; have := h.n; omega
  · obtain ⟨i, hi, hs⟩ := Option.map_eq_some_iff.1 u8_info
    have := cut_from (P := Tryd.prog) 22 5 .i64 Tryd.underlying22 hi 1 hs A l.length l.length (m : Int) (by omega) (by omega) W
    rw [Int.toNat_natCast] at this
    rw [this, List.length_drop]
    rfl
theorem word_some (l : List Int) (h : 8 ≤ l.length) : ∃ r, utf8_word_byte.f l = some r := by
  unfold utf8_word_byte.f
  rw [if_pos (by omega), if_pos (by omega), if_pos (by omega), if_pos (by omega), if_pos (by omega), if_pos (by omega), if_pos (by omega), if_pos (by omega)]
  exact ⟨_, rfl⟩
theorem BS.word {w W : World} {A : Option Addr} {l : List Int} (h : BS w A l) (hb : Below w.heap.size w W) (h8 : 8 ≤ l.length) : ∃ r, ∀ q, Calls Tryd.prog 59 #[.slice A l.length l.length] (W.drewN q) fun e w' => e = .returned (.int .u64 r) ∧ ∃ m, w' = (W.drewN q).drewN m := by
  obtain ⟨r, hr⟩ := word_some l h8
  exact ⟨r, fun q => (utf8_word_byte.calls A l.length l r _ (Kd.C_below h.c (pw_below_drewN hb q)) (Nat.le_refl _) hr).mono fun e w' ⟨he, hd⟩ => ⟨he, hd.1⟩⟩
theorem BS.at_ {w W : World} {A : Option Addr} {l : List Int} (h : BS w A l) (hb : Below w.heap.size w W) (h0 : 0 < l.length) : ∃ ad, A = some ad ∧ ∀ j, j < l.length → W.cell? (ad.add j) = some (.int .u8 (l.getD j 0)) := (Kd.reads_of_C (enc := Value.int .u8) (d := (0 : Int)) (h1 := fun _ => rfl) (Kd.C_below h.c hb)).2.2 h0
theorem BS.at1 {w W : World} {ad : Addr} {l : List Int} (h : BS w (some ad) l) (hb : Below w.heap.size w W) (j : Nat) (hj : j < l.length) : W.cell? (ad.add j) = some (.int .u8 (l.getD j 0)) := by
  obtain ⟨a2, e, hx⟩ := h.at_ hb (by omega)
  cases e
  exact hx j hj
theorem BS.bd {w : World} {A : Option Addr} {l : List Int} (h : BS w A l) (j : Nat) (hj : j < l.length) : 0 ≤ l.getD j 0 ∧ l.getD j 0 ≤ 255 := by
  rw [List.getD_eq_getElem?_getD, List.getElem?_eq_getElem hj]
  exact h.b _ (List.getElem_mem hj)

noncomputable def vregion18 : Code := pth [true, true, false, false, false, true, false, true, true, true, true, true, true, false, true, false, false, false] (Tryd.f54.body.getD .skip)
set_option maxHeartbeats 16000000 in
set_option maxRecDepth 100000 in
theorem vreg18 (w : World) (Q : Exit → Act → World → Prop) {v1 v2 v3 v4 v5 v7 v8 v9 v10 v11 v12 v13 v14 v15 v16 v17 v18 v19 v20 v21 v22 v23 v24 v25 v26 v27 v28 v29 v30 v31 v32 v33 v34 v35 v36 v37 v38 v39 v40 v41 v42 v43 v44 v45 v46 v47 v48 v49 v50 v51 v52 v53 v54 v55 v56 v57 v58 v59 v60 v61 v62 v63 v64 v65 v66 v67 v68 v69 v70 v71 v72 v73 v74 v75 v76 v77 v78 v79 v80 v81 v82 v83 v84 v85 v86 v87 v88 v89 v90 v91 v92 v93 v94 v95 v96 v97 v98 v99 v100 v101 v102 v103 v104 v105 v106 v107 v108 v109 v110 v111 v112 v113 v114 v115 v116 v117 v118 v119 v120 v121 v122 v123 v124 v125 v126 v127 v128 v129 v130 v131 v132 v133 v134 v135 v136 v137 v138 v139 v140 v141 v142 v143 v144 v145 v146 v147 v148 v149 v150 v151 v152 v153 v154 v155 v156 v157 v158 v159 v160 v161 v162 v163 v164 v165 v166 v167 v168 v169 v170 v171 v172 v173 v174 v175 v176 v177 v178 v179 v180 v181 v182 v183 v184 v185 v186 v187 : Value} (ad : Addr) (n g : Nat) (hn : n ≤ 9223372036854775807) (LO HI x1 : Int) (W : World) (HB : Aside0 (Below w.heap.size w W)) (hx1 : 1 < n → W.cell? (ad.add 1) = some (.int .u8 x1))
    (g0 : W.cell? ⟨g, 0, none⟩ = some (.int .u8 LO)) (g1 : W.cell? ⟨g, 1, none⟩ = some (.int .u8 HI))
    (hN : Aside0 (∀ (n85 n86 n87 n88 n89 n90 n91 n92 n93 n94 n95 n96 n97 n98 n99 n100 n101 n102 : Value) (bb : Bool) (W2 : World), (bb = false → 2 ≤ n) → Below w.heap.size w W2 → Q .normal ⟨#[.slice (some ad) n n, v1, v2, v3, v4, v5, .pointer (some ⟨g, 0, none⟩), v7, v8, v9, v10, v11, v12, v13, v14, v15, v16, v17, v18, v19, v20, v21, v22, v23, v24, v25, v26, v27, v28, v29, v30, v31, v32, v33, v34, v35, v36, v37, v38, v39, v40, v41, v42, v43, v44, v45, v46, v47, v48, v49, v50, v51, v52, v53, v54, v55, v56, v57, v58, v59, v60, v61, v62, v63, v64, v65, v66, v67, v68, v69, v70, v71, v72, v73, v74, v75, v76, v77, v78, v79, v80, v81, v82, v83, v84, n85, n86, n87, n88, n89, n90, n91, n92, n93, n94, n95, n96, n97, n98, n99, n100, n101, n102, .bool bb, v104, v105, v106, v107, v108, v109, v110, v111, v112, v113, v114, v115, v116, v117, v118, v119, v120, v121, v122, v123, v124, v125, v126, v127, v128, v129, v130, v131, v132, v133, v134, v135, v136, v137, v138, v139, v140, v141, v142, v143, v144, v145, v146, v147, v148, v149, v150, v151, v152, v153, v154, v155, v156, v157, v158, v159, v160, v161, v162, v163, v164, v165, v166, v167, v168, v169, v170, v171, v172, v173, v174, v175, v176, v177, v178, v179, v180, v181, v182, v183, v184, v185, v186, v187], []⟩ W2)) :
    Code.wp Tryd.prog vregion18 Q ⟨#[.slice (some ad) n n, v1, v2, v3, v4, v5, .pointer (some ⟨g, 0, none⟩), v7, v8, v9, v10, v11, v12, v13, v14, v15, v16, v17, v18, v19, v20, v21, v22, v23, v24, v25, v26, v27, v28, v29, v30, v31, v32, v33, v34, v35, v36, v37, v38, v39, v40, v41, v42, v43, v44, v45, v46, v47, v48, v49, v50, v51, v52, v53, v54, v55, v56, v57, v58, v59, v60, v61, v62, v63, v64, v65, v66, v67, v68, v69, v70, v71, v72, v73, v74, v75, v76, v77, v78, v79, v80, v81, v82, v83, v84, v85, v86, v87, v88, v89, v90, v91, v92, v93, v94, v95, v96, v97, v98, v99, v100, v101, v102, v103, v104, v105, v106, v107, v108, v109, v110, v111, v112, v113, v114, v115, v116, v117, v118, v119, v120, v121, v122, v123, v124, v125, v126, v127, v128, v129, v130, v131, v132, v133, v134, v135, v136, v137, v138, v139, v140, v141, v142, v143, v144, v145, v146, v147, v148, v149, v150, v151, v152, v153, v154, v155, v156, v157, v158, v159, v160, v161, v162, v163, v164, v165, v166, v167, v168, v169, v170, v171, v172, v173, v174, v175, v176, v177, v178, v179, v180, v181, v182, v183, v184, v185, v186, v187], []⟩ W := by
  conv => arg 2; whnf
  conv => arg 4; zeta
  by_cases q0 : n < 2
  · have q0z : (n : Int) < 2 := by omega
    go_big_quiet (fail)
    go_wp2_with fail
    exact hN.out _ _ _ _ _ _ _ _ _ _ _ _ _ _ _ _ _ _ _ _ (by first | (intro h; cases h; done) | (intro _; omega)) (pw_below_drewN HB.out _)
  · have q0z : ¬ ((n : Int) < 2) := by omega
    have q0y : (2 : Int) ≤ (n : Int) := by omega
    have hz1 : (1 : Int) < (n : Int) := by omega
    have hp1 : 1 < n := by omega
    have c1 : W.cell? ⟨ad.block, ad.off + 1, none⟩ = some (.int .u8 x1) := hx1 (by omega)
    clear hx1
    by_cases q1 : x1 < LO
    · go_big_quiet (fail)
      go_wp2_with fail
      exact hN.out _ _ _ _ _ _ _ _ _ _ _ _ _ _ _ _ _ _ _ _ (by first | (intro h; cases h; done) | (intro _; omega)) (pw_below_drewN HB.out _)
    · by_cases q2 : HI < x1
      · go_big_quiet (fail)
        go_wp2_with fail
        exact hN.out _ _ _ _ _ _ _ _ _ _ _ _ _ _ _ _ _ _ _ _ (by first | (intro h; cases h; done) | (intro _; omega)) (pw_below_drewN HB.out _)
      · go_big_quiet (fail)
        go_wp2_with fail
        exact hN.out _ _ _ _ _ _ _ _ _ _ _ _ _ _ _ _ _ _ _ _ (by first | (intro h; cases h; done) | (intro _; omega)) (pw_below_drewN HB.out _)

noncomputable def vregion22 : Code := pth [true, true, false, false, false, true, false, true, true, true, true, true, true, false, true, true, true, false, false, false] (Tryd.f54.body.getD .skip)
set_option maxHeartbeats 16000000 in
set_option maxRecDepth 100000 in
theorem vreg22 (w : World) (Q : Exit → Act → World → Prop) {v1 v2 v3 v4 v5 v7 v8 v9 v10 v11 v12 v13 v14 v15 v16 v17 v18 v19 v20 v21 v22 v23 v24 v25 v26 v27 v28 v29 v30 v31 v32 v33 v34 v35 v36 v37 v38 v39 v40 v41 v42 v43 v44 v45 v46 v47 v48 v49 v50 v51 v52 v53 v54 v55 v56 v57 v58 v59 v60 v61 v62 v63 v64 v65 v66 v67 v68 v69 v70 v71 v72 v73 v74 v75 v76 v77 v78 v79 v80 v81 v82 v83 v84 v85 v86 v87 v88 v89 v90 v91 v92 v93 v94 v95 v96 v97 v98 v99 v100 v101 v102 v103 v104 v105 v106 v107 v108 v109 v110 v111 v112 v113 v114 v115 v116 v117 v118 v119 v120 v121 v122 v123 v124 v125 v126 v127 v128 v129 v130 v131 v132 v133 v134 v135 v136 v137 v138 v139 v140 v141 v142 v143 v144 v145 v146 v147 v148 v149 v150 v151 v152 v153 v154 v155 v156 v157 v158 v159 v160 v161 v162 v163 v164 v165 v166 v167 v168 v169 v170 v171 v172 v173 v174 v175 v176 v177 v178 v179 v180 v181 v182 v183 v184 v185 v186 v187 : Value} (ad : Addr) (n g : Nat) (hn : n ≤ 9223372036854775807) (LO HI x1 x2 : Int) (W : World) (HB : Aside0 (Below w.heap.size w W)) (hx1 : 1 < n → W.cell? (ad.add 1) = some (.int .u8 x1)) (hx2 : 2 < n → W.cell? (ad.add 2) = some (.int .u8 x2))
    (g0 : W.cell? ⟨g, 0, none⟩ = some (.int .u8 LO)) (g1 : W.cell? ⟨g, 1, none⟩ = some (.int .u8 HI))
    (hN : Aside0 (∀ (n108 n109 n110 n111 n112 n113 n114 n115 n116 n117 n118 n119 n120 n121 n122 n123 n124 n125 n126 n127 n128 n129 n130 n131 n132 n133 n134 n135 n136 n137 : Value) (bb : Bool) (W2 : World), (bb = false → 3 ≤ n) → Below w.heap.size w W2 → Q .normal ⟨#[.slice (some ad) n n, v1, v2, v3, v4, v5, .pointer (some ⟨g, 0, none⟩), v7, v8, v9, v10, v11, v12, v13, v14, v15, v16, v17, v18, v19, v20, v21, v22, v23, v24, v25, v26, v27, v28, v29, v30, v31, v32, v33, v34, v35, v36, v37, v38, v39, v40, v41, v42, v43, v44, v45, v46, v47, v48, v49, v50, v51, v52, v53, v54, v55, v56, v57, v58, v59, v60, v61, v62, v63, v64, v65, v66, v67, v68, v69, v70, v71, v72, v73, v74, v75, v76, v77, v78, v79, v80, v81, v82, v83, v84, v85, v86, v87, v88, v89, v90, v91, v92, v93, v94, v95, v96, v97, v98, v99, v100, v101, v102, v103, v104, v105, v106, v107, n108, n109, n110, n111, n112, n113, n114, n115, n116, n117, n118, n119, n120, n121, n122, n123, n124, n125, n126, n127, n128, n129, n130, n131, n132, n133, n134, n135, n136, n137, .bool bb, v139, v140, v141, v142, v143, v144, v145, v146, v147, v148, v149, v150, v151, v152, v153, v154, v155, v156, v157, v158, v159, v160, v161, v162, v163, v164, v165, v166, v167, v168, v169, v170, v171, v172, v173, v174, v175, v176, v177, v178, v179, v180, v181, v182, v183, v184, v185, v186, v187], []⟩ W2)) :
    Code.wp Tryd.prog vregion22 Q ⟨#[.slice (some ad) n n, v1, v2, v3, v4, v5, .pointer (some ⟨g, 0, none⟩), v7, v8, v9, v10, v11, v12, v13, v14, v15, v16, v17, v18, v19, v20, v21, v22, v23, v24, v25, v26, v27, v28, v29, v30, v31, v32, v33, v34, v35, v36, v37, v38, v39, v40, v41, v42, v43, v44, v45, v46, v47, v48, v49, v50, v51, v52, v53, v54, v55, v56, v57, v58, v59, v60, v61, v62, v63, v64, v65, v66, v67, v68, v69, v70, v71, v72, v73, v74, v75, v76, v77, v78, v79, v80, v81, v82, v83, v84, v85, v86, v87, v88, v89, v90, v91, v92, v93, v94, v95, v96, v97, v98, v99, v100, v101, v102, v103, v104, v105, v106, v107, v108, v109, v110, v111, v112, v113, v114, v115, v116, v117, v118, v119, v120, v121, v122, v123, v124, v125, v126, v127, v128, v129, v130, v131, v132, v133, v134, v135, v136, v137, v138, v139, v140, v141, v142, v143, v144, v145, v146, v147, v148, v149, v150, v151, v152, v153, v154, v155, v156, v157, v158, v159, v160, v161, v162, v163, v164, v165, v166, v167, v168, v169, v170, v171, v172, v173, v174, v175, v176, v177, v178, v179, v180, v181, v182, v183, v184, v185, v186, v187], []⟩ W := by
  conv => arg 2; whnf
  conv => arg 4; zeta
  by_cases q0 : n < 3
  · have q0z : (n : Int) < 3 := by omega
    go_big_quiet (fail)
    go_wp2_with fail
    exact hN.out _ _ _ _ _ _ _ _ _ _ _ _ _ _ _ _ _ _ _ _ _ _ _ _ _ _ _ _ _ _ _ _ (by first | (intro h; cases h; done) | (intro _; omega)) (pw_below_drewN HB.out _)
  · have q0z : ¬ ((n : Int) < 3) := by omega
    have q0y : (3 : Int) ≤ (n : Int) := by omega
    have hz1 : (1 : Int) < (n : Int) := by omega
    have hp1 : 1 < n := by omega
    have c1 : W.cell? ⟨ad.block, ad.off + 1, none⟩ = some (.int .u8 x1) := hx1 (by omega)
    have hz2 : (2 : Int) < (n : Int) := by omega
    have hp2 : 2 < n := by omega
    have c2 : W.cell? ⟨ad.block, ad.off + 2, none⟩ = some (.int .u8 x2) := hx2 (by omega)
    clear hx1 hx2
    by_cases q1 : x1 < LO
    · go_big_quiet (fail)
      go_wp2_with fail
      exact hN.out _ _ _ _ _ _ _ _ _ _ _ _ _ _ _ _ _ _ _ _ _ _ _ _ _ _ _ _ _ _ _ _ (by first | (intro h; cases h; done) | (intro _; omega)) (pw_below_drewN HB.out _)
    · by_cases q2 : HI < x1
      · go_big_quiet (fail)
        go_wp2_with fail
        exact hN.out _ _ _ _ _ _ _ _ _ _ _ _ _ _ _ _ _ _ _ _ _ _ _ _ _ _ _ _ _ _ _ _ (by first | (intro h; cases h; done) | (intro _; omega)) (pw_below_drewN HB.out _)
      · by_cases q3 : x2 < 128
        · go_big_quiet (fail)
          go_wp2_with fail
          exact hN.out _ _ _ _ _ _ _ _ _ _ _ _ _ _ _ _ _ _ _ _ _ _ _ _ _ _ _ _ _ _ _ _ (by first | (intro h; cases h; done) | (intro _; omega)) (pw_below_drewN HB.out _)
        · by_cases q4 : 191 < x2
          · go_big_quiet (fail)
            go_wp2_with fail
            exact hN.out _ _ _ _ _ _ _ _ _ _ _ _ _ _ _ _ _ _ _ _ _ _ _ _ _ _ _ _ _ _ _ _ (by first | (intro h; cases h; done) | (intro _; omega)) (pw_below_drewN HB.out _)
          · go_big_quiet (fail)
            go_wp2_with fail
            exact hN.out _ _ _ _ _ _ _ _ _ _ _ _ _ _ _ _ _ _ _ _ _ _ _ _ _ _ _ _ _ _ _ _ (by first | (intro h; cases h; done) | (intro _; omega)) (pw_below_drewN HB.out _)

noncomputable def vregion26 : Code := pth [true, true, false, false, false, true, false, true, true, true, true, true, true, false, true, true, true, true, true, false, false, false] (Tryd.f54.body.getD .skip)
set_option maxHeartbeats 16000000 in
set_option maxRecDepth 100000 in
theorem vreg26 (w : World) (Q : Exit → Act → World → Prop) {v1 v2 v3 v4 v5 v7 v8 v9 v10 v11 v12 v13 v14 v15 v16 v17 v18 v19 v20 v21 v22 v23 v24 v25 v26 v27 v28 v29 v30 v31 v32 v33 v34 v35 v36 v37 v38 v39 v40 v41 v42 v43 v44 v45 v46 v47 v48 v49 v50 v51 v52 v53 v54 v55 v56 v57 v58 v59 v60 v61 v62 v63 v64 v65 v66 v67 v68 v69 v70 v71 v72 v73 v74 v75 v76 v77 v78 v79 v80 v81 v82 v83 v84 v85 v86 v87 v88 v89 v90 v91 v92 v93 v94 v95 v96 v97 v98 v99 v100 v101 v102 v103 v104 v105 v106 v107 v108 v109 v110 v111 v112 v113 v114 v115 v116 v117 v118 v119 v120 v121 v122 v123 v124 v125 v126 v127 v128 v129 v130 v131 v132 v133 v134 v135 v136 v137 v138 v139 v140 v141 v142 v143 v144 v145 v146 v147 v148 v149 v150 v151 v152 v153 v154 v155 v156 v157 v158 v159 v160 v161 v162 v163 v164 v165 v166 v167 v168 v169 v170 v171 v172 v173 v174 v175 v176 v177 v178 v179 v180 v181 v182 v183 v184 v185 v186 v187 : Value} (ad : Addr) (n g : Nat) (hn : n ≤ 9223372036854775807) (LO HI x1 x2 x3 : Int) (W : World) (HB : Aside0 (Below w.heap.size w W)) (hx1 : 1 < n → W.cell? (ad.add 1) = some (.int .u8 x1)) (hx2 : 2 < n → W.cell? (ad.add 2) = some (.int .u8 x2)) (hx3 : 3 < n → W.cell? (ad.add 3) = some (.int .u8 x3))
    (g0 : W.cell? ⟨g, 0, none⟩ = some (.int .u8 LO)) (g1 : W.cell? ⟨g, 1, none⟩ = some (.int .u8 HI))
    (hN : Aside0 (∀ (n143 n144 n145 n146 n147 n148 n149 n150 n151 n152 n153 n154 n155 n156 n157 n158 n159 n160 n161 n162 n163 n164 n165 n166 n167 n168 n169 n170 n171 n172 n173 n174 n175 n176 n177 n178 n179 n180 n181 n182 n183 n184 : Value) (bb : Bool) (W2 : World), (bb = false → 4 ≤ n) → Below w.heap.size w W2 → Q .normal ⟨#[.slice (some ad) n n, v1, v2, v3, v4, v5, .pointer (some ⟨g, 0, none⟩), v7, v8, v9, v10, v11, v12, v13, v14, v15, v16, v17, v18, v19, v20, v21, v22, v23, v24, v25, v26, v27, v28, v29, v30, v31, v32, v33, v34, v35, v36, v37, v38, v39, v40, v41, v42, v43, v44, v45, v46, v47, v48, v49, v50, v51, v52, v53, v54, v55, v56, v57, v58, v59, v60, v61, v62, v63, v64, v65, v66, v67, v68, v69, v70, v71, v72, v73, v74, v75, v76, v77, v78, v79, v80, v81, v82, v83, v84, v85, v86, v87, v88, v89, v90, v91, v92, v93, v94, v95, v96, v97, v98, v99, v100, v101, v102, v103, v104, v105, v106, v107, v108, v109, v110, v111, v112, v113, v114, v115, v116, v117, v118, v119, v120, v121, v122, v123, v124, v125, v126, v127, v128, v129, v130, v131, v132, v133, v134, v135, v136, v137, v138, v139, v140, v141, v142, n143, n144, n145, n146, n147, n148, n149, n150, n151, n152, n153, n154, n155, n156, n157, n158, n159, n160, n161, n162, n163, n164, n165, n166, n167, n168, n169, n170, n171, n172, n173, n174, n175, n176, n177, n178, n179, n180, n181, n182, n183, n184, .bool bb, v186, v187], []⟩ W2)) :
    Code.wp Tryd.prog vregion26 Q ⟨#[.slice (some ad) n n, v1, v2, v3, v4, v5, .pointer (some ⟨g, 0, none⟩), v7, v8, v9, v10, v11, v12, v13, v14, v15, v16, v17, v18, v19, v20, v21, v22, v23, v24, v25, v26, v27, v28, v29, v30, v31, v32, v33, v34, v35, v36, v37, v38, v39, v40, v41, v42, v43, v44, v45, v46, v47, v48, v49, v50, v51, v52, v53, v54, v55, v56, v57, v58, v59, v60, v61, v62, v63, v64, v65, v66, v67, v68, v69, v70, v71, v72, v73, v74, v75, v76, v77, v78, v79, v80, v81, v82, v83, v84, v85, v86, v87, v88, v89, v90, v91, v92, v93, v94, v95, v96, v97, v98, v99, v100, v101, v102, v103, v104, v105, v106, v107, v108, v109, v110, v111, v112, v113, v114, v115, v116, v117, v118, v119, v120, v121, v122, v123, v124, v125, v126, v127, v128, v129, v130, v131, v132, v133, v134, v135, v136, v137, v138, v139, v140, v141, v142, v143, v144, v145, v146, v147, v148, v149, v150, v151, v152, v153, v154, v155, v156, v157, v158, v159, v160, v161, v162, v163, v164, v165, v166, v167, v168, v169, v170, v171, v172, v173, v174, v175, v176, v177, v178, v179, v180, v181, v182, v183, v184, v185, v186, v187], []⟩ W := by
  conv => arg 2; whnf
  conv => arg 4; zeta
  by_cases q0 : n < 4
  · have q0z : (n : Int) < 4 := by omega
    go_big_quiet (fail)
    go_wp2_with fail
    exact hN.out _ _ _ _ _ _ _ _ _ _ _ _ _ _ _ _ _ _ _ _ _ _ _ _ _ _ _ _ _ _ _ _ _ _ _ _ _ _ _ _ _ _ _ _ (by first | (intro h; cases h; done) | (intro _; omega)) (pw_below_drewN HB.out _)
  · have q0z : ¬ ((n : Int) < 4) := by omega
    have q0y : (4 : Int) ≤ (n : Int) := by omega
    have hz1 : (1 : Int) < (n : Int) := by omega
    have hp1 : 1 < n := by omega
    have c1 : W.cell? ⟨ad.block, ad.off + 1, none⟩ = some (.int .u8 x1) := hx1 (by omega)
    have hz2 : (2 : Int) < (n : Int) := by omega
    have hp2 : 2 < n := by omega
    have c2 : W.cell? ⟨ad.block, ad.off + 2, none⟩ = some (.int .u8 x2) := hx2 (by omega)
    have hz3 : (3 : Int) < (n : Int) := by omega
    have hp3 : 3 < n := by omega
    have c3 : W.cell? ⟨ad.block, ad.off + 3, none⟩ = some (.int .u8 x3) := hx3 (by omega)
    clear hx1 hx2 hx3
    by_cases q1 : x1 < LO
    · go_big_quiet (fail)
      go_wp2_with fail
      exact hN.out _ _ _ _ _ _ _ _ _ _ _ _ _ _ _ _ _ _ _ _ _ _ _ _ _ _ _ _ _ _ _ _ _ _ _ _ _ _ _ _ _ _ _ _ (by first | (intro h; cases h; done) | (intro _; omega)) (pw_below_drewN HB.out _)
    · by_cases q2 : HI < x1
      · go_big_quiet (fail)
        go_wp2_with fail
        exact hN.out _ _ _ _ _ _ _ _ _ _ _ _ _ _ _ _ _ _ _ _ _ _ _ _ _ _ _ _ _ _ _ _ _ _ _ _ _ _ _ _ _ _ _ _ (by first | (intro h; cases h; done) | (intro _; omega)) (pw_below_drewN HB.out _)
      · by_cases q3 : x2 < 128
        · go_big_quiet (fail)
          go_wp2_with fail
          exact hN.out _ _ _ _ _ _ _ _ _ _ _ _ _ _ _ _ _ _ _ _ _ _ _ _ _ _ _ _ _ _ _ _ _ _ _ _ _ _ _ _ _ _ _ _ (by first | (intro h; cases h; done) | (intro _; omega)) (pw_below_drewN HB.out _)
        · by_cases q4 : 191 < x2
          · go_big_quiet (fail)
            go_wp2_with fail
            exact hN.out _ _ _ _ _ _ _ _ _ _ _ _ _ _ _ _ _ _ _ _ _ _ _ _ _ _ _ _ _ _ _ _ _ _ _ _ _ _ _ _ _ _ _ _ (by first | (intro h; cases h; done) | (intro _; omega)) (pw_below_drewN HB.out _)
          · by_cases q5 : x3 < 128
            · go_big_quiet (fail)
              go_wp2_with fail
              exact hN.out _ _ _ _ _ _ _ _ _ _ _ _ _ _ _ _ _ _ _ _ _ _ _ _ _ _ _ _ _ _ _ _ _ _ _ _ _ _ _ _ _ _ _ _ (by first | (intro h; cases h; done) | (intro _; omega)) (pw_below_drewN HB.out _)
            · by_cases q6 : 191 < x3
              · go_big_quiet (fail)
                go_wp2_with fail
                exact hN.out _ _ _ _ _ _ _ _ _ _ _ _ _ _ _ _ _ _ _ _ _ _ _ _ _ _ _ _ _ _ _ _ _ _ _ _ _ _ _ _ _ _ _ _ (by first | (intro h; cases h; done) | (intro _; omega)) (pw_below_drewN HB.out _)
              · go_big_quiet (fail)
                go_wp2_with fail
                exact hN.out _ _ _ _ _ _ _ _ _ _ _ _ _ _ _ _ _ _ _ _ _ _ _ _ _ _ _ _ _ _ _ _ _ _ _ _ _ _ _ _ _ _ _ _ (by first | (intro h; cases h; done) | (intro _; omega)) (pw_below_drewN HB.out _)

noncomputable def vcond20 : Code := pth [true, true, false, false, false, true, false, true, false, true] (Tryd.f54.body.getD .skip)
set_option maxHeartbeats 16000000 in
set_option maxRecDepth 100000 in
theorem vfast (w : World) (Q : Exit → Act → World → Prop) {v1 v2 v3 v4 v5 v6 v7 v8 v9 v10 v11 v12 v13 v14 v15 v16 v17 v18 v19 v21 v22 v23 v24 v25 v26 v27 v28 v29 v30 v31 v32 v33 v34 v35 v36 v37 v38 v39 v40 v41 v42 v43 v44 v45 v46 v47 v48 v49 v50 v51 v52 v53 v54 v55 v56 v57 v58 v59 v60 v61 v62 v63 v64 v65 v66 v67 v68 v69 v70 v71 v72 v73 v74 v75 v76 v77 v78 v79 v80 v81 v82 v83 v84 v85 v86 v87 v88 v89 v90 v91 v92 v93 v94 v95 v96 v97 v98 v99 v100 v101 v102 v103 v104 v105 v106 v107 v108 v109 v110 v111 v112 v113 v114 v115 v116 v117 v118 v119 v120 v121 v122 v123 v124 v125 v126 v127 v128 v129 v130 v131 v132 v133 v134 v135 v136 v137 v138 v139 v140 v141 v142 v143 v144 v145 v146 v147 v148 v149 v150 v151 v152 v153 v154 v155 v156 v157 v158 v159 v160 v161 v162 v163 v164 v165 v166 v167 v168 v169 v170 v171 v172 v173 v174 v175 v176 v177 v178 v179 v180 v181 v182 v183 v184 v185 v186 v187 : Value} (A : Option Addr) (l : List Int) (W : World) (Hl : Aside0 (BS w A l)) (h0 : 0 < l.length) (HB : Aside0 (Below w.heap.size w W))
    (hE : Aside0 (∀ (n21 n22 n23 n24 n25 n26 n27 n28 n29 n30 n31 n32 n33 n34 n35 n36 n37 n38 n39 n40 n41 n42 n43 n44 n45 n46 n47 n48 n49 n50 n51 n52 n53 n54 n55 n56 n57 n58 n59 n60 n61 n62 n63 n64 n65 n66 n67 n68 n69 n70 n71 : Value) (A2 : Option Addr) (l2 : List Int) (W2 : World), l2.length < l.length → Aside0 (BS w A2 l2) → Below w.heap.size w W2 → Q (.exit 1) ⟨#[.slice A2 l2.length l2.length, v1, v2, v3, v4, v5, v6, v7, v8, v9, v10, v11, v12, v13, v14, v15, v16, v17, v18, v19, .bool true, n21, n22, n23, n24, n25, n26, n27, n28, n29, n30, n31, n32, n33, n34, n35, n36, n37, n38, n39, n40, n41, n42, n43, n44, n45, n46, n47, n48, n49, n50, n51, n52, n53, n54, n55, n56, n57, n58, n59, n60, n61, n62, n63, n64, n65, n66, n67, n68, n69, n70, n71, v72, v73, v74, v75, v76, v77, v78, v79, v80, v81, v82, v83, v84, v85, v86, v87, v88, v89, v90, v91, v92, v93, v94, v95, v96, v97, v98, v99, v100, v101, v102, v103, v104, v105, v106, v107, v108, v109, v110, v111, v112, v113, v114, v115, v116, v117, v118, v119, v120, v121, v122, v123, v124, v125, v126, v127, v128, v129, v130, v131, v132, v133, v134, v135, v136, v137, v138, v139, v140, v141, v142, v143, v144, v145, v146, v147, v148, v149, v150, v151, v152, v153, v154, v155, v156, v157, v158, v159, v160, v161, v162, v163, v164, v165, v166, v167, v168, v169, v170, v171, v172, v173, v174, v175, v176, v177, v178, v179, v180, v181, v182, v183, v184, v185, v186, v187], []⟩ W2)) :
    Code.wp Tryd.prog vcond20 Q ⟨#[.slice A l.length l.length, v1, v2, v3, v4, v5, v6, v7, v8, v9, v10, v11, v12, v13, v14, v15, v16, v17, v18, v19, .bool true, v21, v22, v23, v24, v25, v26, v27, v28, v29, v30, v31, v32, v33, v34, v35, v36, v37, v38, v39, v40, v41, v42, v43, v44, v45, v46, v47, v48, v49, v50, v51, v52, v53, v54, v55, v56, v57, v58, v59, v60, v61, v62, v63, v64, v65, v66, v67, v68, v69, v70, v71, v72, v73, v74, v75, v76, v77, v78, v79, v80, v81, v82, v83, v84, v85, v86, v87, v88, v89, v90, v91, v92, v93, v94, v95, v96, v97, v98, v99, v100, v101, v102, v103, v104, v105, v106, v107, v108, v109, v110, v111, v112, v113, v114, v115, v116, v117, v118, v119, v120, v121, v122, v123, v124, v125, v126, v127, v128, v129, v130, v131, v132, v133, v134, v135, v136, v137, v138, v139, v140, v141, v142, v143, v144, v145, v146, v147, v148, v149, v150, v151, v152, v153, v154, v155, v156, v157, v158, v159, v160, v161, v162, v163, v164, v165, v166, v167, v168, v169, v170, v171, v172, v173, v174, v175, v176, v177, v178, v179, v180, v181, v182, v183, v184, v185, v186, v187], []⟩ W := by
  conv => arg 2; whnf
  conv => arg 4; zeta
  have hn := Hl.out.n
  obtain ⟨A1, l1, el1, sl1, ul1⟩ := Hl.out.drop 1 (by omega)
  have Hl1 := Aside0.mk sl1
  have ul1' : ∀ W, (Instr.slice 22 (.slice A l.length l.length) (some (.int .i64 1)) none none).run Tryd.prog W = .ok (.slice A1 l1.length l1.length) W := ul1
  clear sl1 ul1
  by_cases c8 : (8 : Int) < (l1.length : Int)
  · obtain ⟨r1, hr1⟩ := Hl1.out.word (W := W) HB.out (by omega)
    have HR1 := Aside0.mk (hr1 0)
    clear hr1
    obtain ⟨A2, l2, el2, sl2, ul2⟩ := Hl1.out.drop 8 (by omega)
    have Hl2 := Aside0.mk sl2
    have ul2' : ∀ W, (Instr.slice 22 (.slice A1 l1.length l1.length) (some (.int .i64 8)) none none).run Tryd.prog W = .ok (.slice A2 l2.length l2.length) W := ul2
    clear sl2 ul2
    cases hz1 : (bits .and .u64 r1 9259542123273814144 == 0) with
    | false =>
      go_wp2_with (go_at_call 59; refine HR1.out.mono ?_; rintro _ W_ ⟨rfl, q1, rfl⟩)
      exact hE.out _ _ _ _ _ _ _ _ _ _ _ _ _ _ _ _ _ _ _ _ _ _ _ _ _ _ _ _ _ _ _ _ _ _ _ _ _ _ _ _ _ _ _ _ _ _ _ _ _ _ _ A1 l1 _ (by omega) Hl1 (pw_below_drewN (pw_below_drewN HB.out 0) q1)
    | true =>
      go_wp2_with (go_at_call 59; refine HR1.out.mono ?_; rintro _ W_ ⟨rfl, q1, rfl⟩)
      have HB2 := Aside0.mk (pw_below_drewN HB.out q1)
      generalize W.drewN q1 = Wa at HB2 ⊢
      obtain ⟨W, hW⟩ : ∃ W, W = Wa := ⟨_, rfl⟩
      subst hW
      clear HB HR1 hz1
      have HB := HB2
      clear HB2
      by_cases c16 : (16 : Int) < (l2.length : Int)
      · have c16b := decide_eq_true c16
        obtain ⟨rl2, hrl2⟩ := Hl2.out.word (W := W) HB.out (by omega)
        have HRl2 := Aside0.mk hrl2
        clear hrl2
        obtain ⟨A2_1, l2_1, el2_1, sl2_1, ul2_1⟩ := Hl2.out.drop 8 (by omega)
        have Hl2_1 := Aside0.mk sl2_1
        have ul2_1' : ∀ W, (Instr.slice 22 (.slice A2 l2.length l2.length) (some (.int .i64 8)) none none).run Tryd.prog W = .ok (.slice A2_1 l2_1.length l2_1.length) W := ul2_1
        clear sl2_1 ul2_1
        obtain ⟨rl2_1, hrl2_1⟩ := Hl2_1.out.word (W := W) HB.out (by omega)
        have HRl2_1 := Aside0.mk hrl2_1
        clear hrl2_1
        obtain ⟨A3, l3, el3, sl3, ul3⟩ := Hl2.out.drop 16 (by omega)
        have Hl3 := Aside0.mk sl3
        have ul3' : ∀ W, (Instr.slice 22 (.slice A2 l2.length l2.length) (some (.int .i64 16)) none none).run Tryd.prog W = .ok (.slice A3 l3.length l3.length) W := ul3
        clear sl3 ul3
        cases hzl2 : (bits .and .u64 (bits .or .u64 rl2 rl2_1) 9259542123273814144 == 0) with
        | false =>
          go_quiet (first | (go_at_call 59; with_reducible refine Calls.quiet_of (HRl2.out _)) | (go_at_call 59; with_reducible refine Calls.quiet_of (HRl2_1.out _)))
          go_wp2_with fail
          exact hE.out _ _ _ _ _ _ _ _ _ _ _ _ _ _ _ _ _ _ _ _ _ _ _ _ _ _ _ _ _ _ _ _ _ _ _ _ _ _ _ _ _ _ _ _ _ _ _ _ _ _ _ A2 l2 _ (by omega) Hl2 (pw_below_drewN HB.out _)
        | true =>
          go_quiet (first | (go_at_call 59; with_reducible refine Calls.quiet_of (HRl2.out _)) | (go_at_call 59; with_reducible refine Calls.quiet_of (HRl2_1.out _)))
          have HB2 := Aside0.mk (pw_below_drewN HB.out nq)
          generalize W.drewN nq = Wb at HB2 ⊢
          clear HB HRl2 HRl2_1
          go_wp2_with fail
          go_loopg [0] (l3.length + 1) (fun kq y0 wr => ∃ (Au : Option Addr) (u : List Int), y0 = .slice Au u.length u.length ∧ Aside0 (u.length < kq ∧ u.length ≤ l3.length) ∧ Aside0 (BS w Au u) ∧ Aside0 (Below w.heap.size w wr))
          case atStart => exact ⟨A3, l3, rfl, ⟨by omega⟩, Hl3, HB2⟩
          case round =>
            clear HB2
            obtain ⟨Au, u, rfl, HM, Hu, HB⟩ := hrel
            have hm := HM.out
            obtain ⟨W, hW⟩ : ∃ W, W = wr := ⟨_, rfl⟩
            subst hW
            by_cases c32 : (32 : Int) < (u.length : Int)
            · have c32b := decide_eq_true c32
              obtain ⟨ru, hru⟩ := Hu.out.word (W := W) HB.out (by omega)
              have HRu := Aside0.mk hru
              clear hru
              obtain ⟨Au_1, u_1, eu_1, su_1, uu_1⟩ := Hu.out.drop 8 (by omega)
              have Hu_1 := Aside0.mk su_1
              have uu_1' : ∀ W, (Instr.slice 22 (.slice Au u.length u.length) (some (.int .i64 8)) none none).run Tryd.prog W = .ok (.slice Au_1 u_1.length u_1.length) W := uu_1
              clear su_1 uu_1
              obtain ⟨ru_1, hru_1⟩ := Hu_1.out.word (W := W) HB.out (by omega)
              have HRu_1 := Aside0.mk hru_1
              clear hru_1
              obtain ⟨Au_2, u_2, eu_2, su_2, uu_2⟩ := Hu.out.drop 16 (by omega)
              have Hu_2 := Aside0.mk su_2
              have uu_2' : ∀ W, (Instr.slice 22 (.slice Au u.length u.length) (some (.int .i64 16)) none none).run Tryd.prog W = .ok (.slice Au_2 u_2.length u_2.length) W := uu_2
              clear su_2 uu_2
              obtain ⟨ru_2, hru_2⟩ := Hu_2.out.word (W := W) HB.out (by omega)
              have HRu_2 := Aside0.mk hru_2
              clear hru_2
              obtain ⟨Au_3, u_3, eu_3, su_3, uu_3⟩ := Hu.out.drop 24 (by omega)
              have Hu_3 := Aside0.mk su_3
              have uu_3' : ∀ W, (Instr.slice 22 (.slice Au u.length u.length) (some (.int .i64 24)) none none).run Tryd.prog W = .ok (.slice Au_3 u_3.length u_3.length) W := uu_3
              clear su_3 uu_3
              obtain ⟨ru_3, hru_3⟩ := Hu_3.out.word (W := W) HB.out (by omega)
              have HRu_3 := Aside0.mk hru_3
              clear hru_3
              obtain ⟨A4, l4, el4, sl4, ul4⟩ := Hu.out.drop 32 (by omega)
              have Hl4 := Aside0.mk sl4
              have ul4' : ∀ W, (Instr.slice 22 (.slice Au u.length u.length) (some (.int .i64 32)) none none).run Tryd.prog W = .ok (.slice A4 l4.length l4.length) W := ul4
              clear sl4 ul4
              cases hzu : (bits .and .u64 (bits .or .u64 (bits .or .u64 ru ru_1) (bits .or .u64 ru_2 ru_3)) 9259542123273814144 == 0) with
              | false =>
                go_wp2_with fail
                go_quiet (first | (go_at_call 59; with_reducible refine Calls.quiet_of (HRu.out _)) | (go_at_call 59; with_reducible refine Calls.quiet_of (HRu_1.out _)) | (go_at_call 59; with_reducible refine Calls.quiet_of (HRu_2.out _)) | (go_at_call 59; with_reducible refine Calls.quiet_of (HRu_3.out _)))
                go_wp2_with fail
                exact hE.out _ _ _ _ _ _ _ _ _ _ _ _ _ _ _ _ _ _ _ _ _ _ _ _ _ _ _ _ _ _ _ _ _ _ _ _ _ _ _ _ _ _ _ _ _ _ _ _ _ _ _ Au u _ (by omega) Hu (pw_below_drewN HB.out _)
              | true =>
                go_wp2_with fail
                go_quiet (first | (go_at_call 59; with_reducible refine Calls.quiet_of (HRu.out _)) | (go_at_call 59; with_reducible refine Calls.quiet_of (HRu_1.out _)) | (go_at_call 59; with_reducible refine Calls.quiet_of (HRu_2.out _)) | (go_at_call 59; with_reducible refine Calls.quiet_of (HRu_3.out _)))
                go_wp2_with fail
                cases gk with
                | zero => omega
                | succ kz =>
                go_roundg kz
                case measure => omega
                case rel => exact ⟨A4, l4, rfl, ⟨by omega⟩, Hl4, ⟨pw_below_drewN HB.out _⟩⟩
            · have c32z : ¬ (32 : Int) < (u.length : Int) := c32
              have c32b : decide ((32 : Int) < (u.length : Int)) = false := decide_eq_false c32
              go_wp2_with fail
              go_quiet (fail)
              go_wp2_with fail
              exact hE.out _ _ _ _ _ _ _ _ _ _ _ _ _ _ _ _ _ _ _ _ _ _ _ _ _ _ _ _ _ _ _ _ _ _ _ _ _ _ _ _ _ _ _ _ _ _ _ _ _ _ _ Au u _ (by omega) Hu (pw_below_drewN HB.out _)
      · have c16b : decide ((16 : Int) < (l2.length : Int)) = false := decide_eq_false c16
        go_quiet (fail)
        go_wp2_with fail
        exact hE.out _ _ _ _ _ _ _ _ _ _ _ _ _ _ _ _ _ _ _ _ _ _ _ _ _ _ _ _ _ _ _ _ _ _ _ _ _ _ _ _ _ _ _ _ _ _ _ _ _ _ _ A2 l2 _ (by omega) Hl2 (pw_below_drewN HB.out _)
  · go_wp2_with fail
    exact hE.out _ _ _ _ _ _ _ _ _ _ _ _ _ _ _ _ _ _ _ _ _ _ _ _ _ _ _ _ _ _ _ _ _ _ _ _ _ _ _ _ _ _ _ _ _ _ _ _ _ _ _ A1 l1 _ (by omega) Hl1 HB.out
end Go.Proofs.YtckdpckdabfkbabDoor.Scan
namespace Go.Proofs.YtckdpckdabfkbabDoor.Scan
open Go.RowKit Go.Proofs.YtckdpckdabfkbabDoorW.PrintWords Go.Proofs.YtckdpckdabfkbabDoor.Plain Go.Proofs.YtckdpckdabfkbabDoor.Num Go.Proofs.YtckdpckdabfkbabDoor.PC
set_option linter.unusedVariables false
set_option linter.unusedSimpArgs false

def SomeBool (w : World) (e : Ending) (w' : World) : Prop := ∃ r, e = .returned (.bool r) ∧ Below w.heap.size w w'
set_option maxRecDepth 100000 in
theorem and7 : ∀ X : Fin 256, bits .and .u8 ((X.val : Nat) : Int) 7 = ((X.val % 8 : Nat) : Int) := by decide
set_option maxHeartbeats 16000000 in
set_option maxRecDepth 100000 in
theorem valid_some (w : World) (A : Option Addr) (c : Nat) (l : List Int) (h : (Kd.int .u8).C w A l.length l) (hb : ∀ x ∈ l, 0 ≤ x ∧ x ≤ 255) (hc : l.length ≤ c) (hT : Lib.Utf8Tabs 1 2 w) :
    Calls Tryd.prog 54 #[.slice A l.length c] w fun e w' => SomeBool w e w' := by
  have HS0 : Aside0 (BS w A l) := ⟨h, h.2.1, hb⟩
  have HT := Aside0.mk hT
  have hn := HS0.out.n
  clear h hb hT
  go_enter Tryd.func54, Tryd.ntmps54
  go_wp2_with fail
  go_loopg [0] (l.length + 1) (fun kq y0 wr => ∃ (Au : Option Addr) (u : List Int), y0 = .slice Au u.length u.length ∧ Aside0 (u.length < kq) ∧ Aside0 (BS w Au u) ∧ Aside0 (Below w.heap.size w wr))
  case atStart => exact ⟨A, l, rfl, ⟨by omega⟩, HS0, ⟨Below.refl _ _⟩⟩
  case round =>
    clear HS0 hn
    obtain ⟨Au, u, rfl, HM, Hu, HB⟩ := hrel
    have hm := HM.out
    have hn := Hu.out.n
    obtain ⟨W, hW⟩ : ∃ W, W = wr := ⟨_, rfl⟩
    subst hW
    by_cases h0 : 0 < u.length
    · have h0z : (0 : Int) < (u.length : Int) := by omega
      obtain ⟨ad, hA, hx⟩ := Hu.out.at_ HB.out h0
      subst hA
      have b0 := Hu.out.bd 0 h0
      obtain ⟨n0, hn0⟩ := Int.eq_ofNat_of_zero_le b0.1
      have c0 : W.cell? ad = some (.int .u8 (n0 : Int)) := by have := hx 0 h0; rwa [Addr.add_zero', hn0] at this
      have l0 : n0 < 256 := by omega
      have HN0 := Aside0.mk hn0
      have HX := Aside0.mk hx
      clear hn0 b0 hx
      by_cases hlt : n0 < 128
      · have hltz : (n0 : Int) < 128 := by omega
        have hltb := decide_eq_true hltz
        go_upto_if 20 with fail
        refine vfast w _ (some ad) u _ Hu h0 HB ⟨?_⟩
        intro n21 n22 n23 n24 n25 n26 n27 n28 n29 n30 n31 n32 n33 n34 n35 n36 n37 n38 n39 n40 n41 n42 n43 n44 n45 n46 n47 n48 n49 n50 n51 n52 n53 n54 n55 n56 n57 n58 n59 n60 n61 n62 n63 n64 n65 n66 n67 n68 n69 n70 n71 A2 l2 W2 hl2 H2 hb2
        go_wp2_with fail
        cases gk with
        | zero => omega
        | succ kz =>
        go_roundg kz
        case measure => omega
        case rel => exact ⟨A2, l2, rfl, ⟨by omega⟩, H2, ⟨hb2⟩⟩
      · have hltz : ¬ (n0 : Int) < 128 := by omega
        have hTr := Utf8Tabs_below HT.out HB.out
        have hc0 := hTr.1 n0 l0
        have hXlt : Lib.firstT n0 < 256 := by rcases Lib.firstT_cases n0 with h | h | h | h | h | h | h | h | h <;> omega
        obtain ⟨X, hX⟩ : ∃ X, Lib.firstT n0 = X := ⟨_, rfl⟩
        rw [hX] at hc0 hXlt
        have h7 := and7 ⟨X, hXlt⟩
        simp only at h7
        have ha0 : W.cell? ⟨2, X / 16 * 2, none⟩ = some (.int .u8 (Lib.accLo (X / 16))) := by rw [Nat.mul_comm]; exact (hTr.2 (X / 16) (by omega)).1
        have ha1 : W.cell? ⟨2, X / 16 * 2 + 1, none⟩ = some (.int .u8 (Lib.accHi (X / 16))) := by rw [Nat.mul_comm]; exact (hTr.2 (X / 16) (by omega)).2
        generalize Lib.accLo (X / 16) = LO at ha0
        generalize Lib.accHi (X / 16) = HI at ha1
        obtain ⟨SZ, hSZ⟩ : ∃ SZ, X % 8 = SZ := ⟨_, rfl⟩
        clear hTr hX
        by_cases s2 : SZ = 2
        · subst s2
          have hSZz : (X : Int) % 8 = 2 := by omega
          obtain ⟨x1, hx1⟩ : ∃ x, u.getD 1 0 = x := ⟨_, rfl⟩
          go_upto_region 18 with fail
          refine vreg18 w _ ad u.length W.heap.size hn LO HI x1 _ ⟨below_alloc HB.out _⟩ (fun hj => by rw [← hx1]; exact Hu.out.at1 (below_alloc HB.out _) 1 hj) (cells_at (blk_new W _) 0 _ rfl) (cells_at (blk_new W _) 1 _ rfl) ⟨?_⟩
          intro n85 n86 n87 n88 n89 n90 n91 n92 n93 n94 n95 n96 n97 n98 n99 n100 n101 n102 bb W2 hbb hb2
          cases bb with
          | true =>
            go_wp2_with fail
            go_ret
            exact ⟨_, rfl, hb2⟩
          | false =>
            have hK := hbb rfl
            obtain ⟨A2, l2, el2, sl2, ul2⟩ := Hu.out.drop 2 (by omega)
            have Hl2 := Aside0.mk sl2
            have ul2' : ∀ W, (Instr.slice 22 (.slice (some ad) u.length u.length) (some (.int .i64 2)) none none).run Tryd.prog W = .ok (.slice A2 l2.length l2.length) W := ul2
            clear sl2 ul2
            go_wp2_with fail
            cases gk with
            | zero => omega
            | succ kz =>
            go_roundg kz
            case measure => omega
            case rel => exact ⟨A2, l2, rfl, ⟨by omega⟩, Hl2, ⟨hb2⟩⟩
        by_cases s3 : SZ = 3
        · subst s3
          have hSZz : (X : Int) % 8 = 3 := by omega
          obtain ⟨x1, hx1⟩ : ∃ x, u.getD 1 0 = x := ⟨_, rfl⟩
          obtain ⟨x2, hx2⟩ : ∃ x, u.getD 2 0 = x := ⟨_, rfl⟩
          go_upto_region 22 with fail
          refine vreg22 w _ ad u.length W.heap.size hn LO HI x1 x2 _ ⟨below_alloc HB.out _⟩ (fun hj => by rw [← hx1]; exact Hu.out.at1 (below_alloc HB.out _) 1 hj) (fun hj => by rw [← hx2]; exact Hu.out.at1 (below_alloc HB.out _) 2 hj) (cells_at (blk_new W _) 0 _ rfl) (cells_at (blk_new W _) 1 _ rfl) ⟨?_⟩
          intro n108 n109 n110 n111 n112 n113 n114 n115 n116 n117 n118 n119 n120 n121 n122 n123 n124 n125 n126 n127 n128 n129 n130 n131 n132 n133 n134 n135 n136 n137 bb W2 hbb hb2
          cases bb with
          | true =>
            go_wp2_with fail
            go_ret
            exact ⟨_, rfl, hb2⟩
          | false =>
            have hK := hbb rfl
            obtain ⟨A2, l2, el2, sl2, ul2⟩ := Hu.out.drop 3 (by omega)
            have Hl2 := Aside0.mk sl2
            have ul2' : ∀ W, (Instr.slice 22 (.slice (some ad) u.length u.length) (some (.int .i64 3)) none none).run Tryd.prog W = .ok (.slice A2 l2.length l2.length) W := ul2
            clear sl2 ul2
            go_wp2_with fail
            cases gk with
            | zero => omega
            | succ kz =>
            go_roundg kz
            case measure => omega
            case rel => exact ⟨A2, l2, rfl, ⟨by omega⟩, Hl2, ⟨hb2⟩⟩
        by_cases s4 : SZ = 4
        · subst s4
          have hSZz : (X : Int) % 8 = 4 := by omega
          obtain ⟨x1, hx1⟩ : ∃ x, u.getD 1 0 = x := ⟨_, rfl⟩
          obtain ⟨x2, hx2⟩ : ∃ x, u.getD 2 0 = x := ⟨_, rfl⟩
          obtain ⟨x3, hx3⟩ : ∃ x, u.getD 3 0 = x := ⟨_, rfl⟩
          go_upto_region 26 with fail
          refine vreg26 w _ ad u.length W.heap.size hn LO HI x1 x2 x3 _ ⟨below_alloc HB.out _⟩ (fun hj => by rw [← hx1]; exact Hu.out.at1 (below_alloc HB.out _) 1 hj) (fun hj => by rw [← hx2]; exact Hu.out.at1 (below_alloc HB.out _) 2 hj) (fun hj => by rw [← hx3]; exact Hu.out.at1 (below_alloc HB.out _) 3 hj) (cells_at (blk_new W _) 0 _ rfl) (cells_at (blk_new W _) 1 _ rfl) ⟨?_⟩
          intro n143 n144 n145 n146 n147 n148 n149 n150 n151 n152 n153 n154 n155 n156 n157 n158 n159 n160 n161 n162 n163 n164 n165 n166 n167 n168 n169 n170 n171 n172 n173 n174 n175 n176 n177 n178 n179 n180 n181 n182 n183 n184 bb W2 hbb hb2
          cases bb with
          | true =>
            go_wp2_with fail
            go_ret
            exact ⟨_, rfl, hb2⟩
          | false =>
            have hK := hbb rfl
            obtain ⟨A2, l2, el2, sl2, ul2⟩ := Hu.out.drop 4 (by omega)
            have Hl2 := Aside0.mk sl2
            have ul2' : ∀ W, (Instr.slice 22 (.slice (some ad) u.length u.length) (some (.int .i64 4)) none none).run Tryd.prog W = .ok (.slice A2 l2.length l2.length) W := ul2
            clear sl2 ul2
            go_wp2_with fail
            cases gk with
            | zero => omega
            | succ kz =>
            go_roundg kz
            case measure => omega
            case rel => exact ⟨A2, l2, rfl, ⟨by omega⟩, Hl2, ⟨hb2⟩⟩
        · have e2 : ¬ ((X : Int) % 8 = 2) := by omega
          have e3 : ¬ ((X : Int) % 8 = 3) := by omega
          have e4 : ¬ ((X : Int) % 8 = 4) := by omega
          have e2b : (((X : Int) % 8) == 2) = false := by simp; omega
          have e3b : (((X : Int) % 8) == 3) = false := by simp; omega
          have e4b : (((X : Int) % 8) == 4) = false := by simp; omega
          go_wp2_with fail
          all_goals (go_ret; exact ⟨_, rfl, below_alloc HB.out _⟩)
    · have h0z : ¬ (0 : Int) < (u.length : Int) := by omega
      go_wp2_with fail
      go_ret
      exact ⟨_, rfl, HB.out⟩
end Go.Proofs.YtckdpckdabfkbabDoor.Scan
namespace Go.Proofs.YtckdpckdabfkbabDoor.Scan
open Go.RowKit Go.Proofs.YtckdpckdabfkbabDoorW.PrintWords Go.Proofs.YtckdpckdabfkbabDoor.Plain Go.Proofs.YtckdpckdabfkbabDoor.Num Go.Proofs.YtckdpckdabfkbabDoor.PC
set_option linter.unusedVariables false
set_option linter.unusedSimpArgs false

def ScK (w : World) (R : Res) (D : ByteArray) (e : Ending) (w' : World) : Prop := ∃ (v : Value) (Ab : Option Addr) (cb : Nat), e = .returned (.tuple #[.int .i64 R.adv, v, .bool R.tok, .slice Ab D.size cb]) ∧ (∃ Av cv, v = .slice Av R.tk.length cv ∧ R.tk.length ≤ cv ∧ (Kd.int .u8).C w' Av R.tk.length R.tk) ∧ D.size ≤ cb ∧ (Kd.int .u8).C w' Ab D.size ((List.range D.size).map (R.mem D)) ∧ Below w.heap.size w w'
theorem scanK_calls (fin : Bool) (w : World) (S : Sp) (Ad Af : Option Addr) (cd cf : Nat) (D : ByteArray) (A : Option Addr) (c : Nat) (hd : (Kd.int .i32).C w Ad S.del.length S.del) (hcd : S.del.length ≤ cd) (hf : (Kd.int .i32).C w Af S.fol.length S.fol) (hcf : S.fol.length ≤ cf) (hl1 : S.del.length ≤ 2147483647) (hl2 : S.fol.length ≤ 2147483647)
    (hA : (Kd.int .u8).C w A D.size (seg D 0 D.size)) (hAc : D.size ≤ c) (hn : D.size ≤ 1000000000) (ht : Lib.Utf8Tabs 1 2 w) (hw : Lib.WhiteTab 0 w) (R : Res) (hR : 0 < D.size → scan S D fin = R) (hR0 : D.size = 0 → R = ⟨0, false, 0, []⟩) :
    Calls Tryd.prog 21 #[.agg (sv S Ad Af cd cf), .slice A D.size c, .bool fin] w fun e w' => ScK w R D e w' := by
  by_cases h0 : D.size = 0
  · have := hR0 h0
    subst this
    have hA0 : (Kd.int .u8).C w A 0 [] := by rw [h0] at hA; exact hA
    rw [h0]
    refine (scanJ_calls fin w S Ad Af cd cf A c hd hcd hf hcf hl1 hl2 hA0).mono ?_
    rintro e w' ⟨v, Ab, cb, rfl, hr, hb⟩
    obtain ⟨Av, cv, rfl, l, hc⟩ := Kd.R_reads hr
    exact ⟨_, Ab, cb, by rw [h0]; rfl, ⟨Av, cv, rfl, l, hc⟩, by omega, by rw [h0]; exact ⟨rfl, by simp, fun h => absurd h (Nat.lt_irrefl _)⟩, hb⟩
  · refine (scanI_calls fin w S Ad Af cd cf D A c hd hcd hf hcf hl1 hl2 hA hAc (by omega) hn ht hw R (hR (by omega))).mono ?_
    rintro e w' ⟨v, Ab, cb, rfl, hr, h1, h2, hb⟩
    obtain ⟨Av, cv, rfl, l, hc⟩ := Kd.R_reads hr
    exact ⟨_, Ab, cb, rfl, ⟨Av, cv, rfl, l, hc⟩, h1, h2, hb⟩
theorem seg_str (l : List Int) (h : ∀ x ∈ l, 0 ≤ x ∧ x ≤ 255) : seg (strOfNums l) 0 (strOfNums l).size = l := by
  apply List.ext_getElem
  · rw [seg_len, strOfNums_size]
  · intro i h1 h2
    have hb := h l[i] (List.getElem_mem h2)
    have hs : i < (strOfNums l).data.size := by
      have := strOfNums_size l
      have e : (strOfNums l).size = (strOfNums l).data.size := rfl
      omega
    simp only [seg, List.getElem_map, List.getElem_range, by', Nat.zero_add]
    have h5 : (strOfNums l).get! i = (strOfNums l).data[i] := getElem!_pos (strOfNums l).data i hs
    rw [h5]
    simp only [strOfNums, List.getElem_toArray, List.getElem_map]
    have h6 : (UInt8.ofNat l[i].toNat).toNat = l[i].toNat := by
      rw [UInt8.toNat_ofNat']; omega
    first | omega | (simp; omega)
theorem seg_byte (D : ByteArray) (k : Nat) : ∀ x ∈ seg D 0 k, 0 ≤ x ∧ x ≤ 255 := by
  intro x hx
  simp only [seg, List.mem_map, by'] at hx
  obtain ⟨i, _, rfl⟩ := hx
  have := UInt8.toNat_lt (D.get! (0 + i))
  omega
theorem valid_seg (W : World) (A : Option Addr) (c : Nat) (D : ByteArray) (h : (Kd.int .u8).C W A D.size (seg D 0 D.size)) (hc : D.size ≤ c) (hT : Lib.Utf8Tabs 1 2 W) :
    Calls Tryd.prog 54 #[.slice A D.size c] W fun e w' => ∃ r, e = .returned (.bool r) ∧ Below W.heap.size W w' := by
  have hl := seg_len D 0 D.size
  have := valid_some W A c (seg D 0 D.size) (by rw [hl]; exact h) (seg_byte D _) (by rw [hl]; exact hc) hT
  rw [hl] at this
  exact this
def SpQ (S : Sp) (D : ByteArray) (fin : Bool) (n : Int) (v : Value) (ok : Bool) (vb : Value) (sd : Bool) (w' : World) : Prop :=
  sd = true → ∃ (R : Res) (Ab : Option Addr) (cb : Nat), n = (R.adv : Int) ∧ ok = R.tok ∧ vb = .slice Ab D.size cb ∧ (0 < D.size → scan S D fin = R) ∧ (D.size = 0 → R = ⟨0, false, 0, []⟩) ∧
      (∃ Av cv, v = .slice Av R.tk.length cv ∧ R.tk.length ≤ cv ∧ (Kd.int .u8).C w' Av R.tk.length R.tk) ∧ D.size ≤ cb ∧ (Kd.int .u8).C w' Ab D.size ((List.range D.size).map (R.mem D))
theorem specQ_calls (fin : Bool) (w : World) (S : Sp) (Ad Af : Option Addr) (cd cf : Nat) (D : ByteArray) (A : Option Addr) (c : Nat) (hd : (Kd.int .i32).C w Ad S.del.length S.del) (hcd : S.del.length ≤ cd) (hf : (Kd.int .i32).C w Af S.fol.length S.fol) (hcf : S.fol.length ≤ cf)
    (hwd : ∀ y ∈ S.del, -2147483648 ≤ y ∧ y ≤ 2147483647) (hwf : ∀ y ∈ S.fol, -2147483648 ≤ y ∧ y ≤ 2147483647) (hA : (Kd.int .u8).C w A D.size (seg D 0 D.size)) (hAc : D.size ≤ c) (hn : D.size ≤ 300) (hl1 : S.del.length ≤ 2147483647) (hl2 : S.fol.length ≤ 2147483647) (hw : Lib.WhiteTab 0 w) (hT : Lib.Utf8Tabs 1 2 w) :
    Calls Tryd.prog 23 #[.agg (sv S Ad Af cd cf), .slice A D.size c, .bool fin] w fun e w' => ∃ n v ok vb sd, e = .returned (.tuple #[.int .i64 n, v, .bool ok, vb, .bool sd]) ∧ SpQ S D fin n v ok vb sd w' ∧ Below w.heap.size w w' := by
  refine (spec_calls fin w S Ad Af cd cf D A c hd hcd hf hcf hwd hwf hA hAc hn hl1 hl2 hw (fun W hb => valid_seg W A c D (Kd.C_below hA hb) hAc (Utf8Tabs_below hT hb))).mono ?_
  rintro e w' ⟨hb, h | h⟩
  · obtain ⟨n, v, ok, vb, rfl⟩ := h
    exact ⟨n, v, ok, vb, false, rfl, (by intro h; cases h), hb⟩
  · obtain ⟨R, v, Ab, cb, rfl, hS, hN, h1, h2, h3, h4, h5⟩ := h
    exact ⟨_, v, _, _, true, rfl, fun _ => ⟨R, Ab, cb, rfl, rfl, rfl, fun h0 => scan_spec hS D fin R (h1 h0), h2, h3, h4, h5⟩, hb⟩
theorem tk_le {S : Sp} {D : ByteArray} {fin : Bool} {R : Res} (hs : 0 < D.size → scan S D fin = R) (hs0 : D.size = 0 → R = ⟨0, false, 0, []⟩) : R.tk.length ≤ D.size := by
  by_cases h0 : D.size = 0
  · rw [hs0 h0]; simp [Res.tk]
  · have := (scan_ok S D fin).o
    rw [hs (by omega)] at this
    unfold Res.tk
    split
    · omega
    · simp
theorem same_calls (l : List Int) (n : Nat) (hn : l.length = n) (hm : n ≤ 1000) (A B : Option Addr) (a b : Nat) (W : World) (h1 : (Kd.int .u8).C W A n l) (h2 : n ≤ a) (h3 : (Kd.int .u8).C W B n l) (h4 : n ≤ b) :
    Calls Tryd.prog 24 #[.slice A n a, .slice B n b] W fun e w' => e = .returned (.bool true) ∧ Below W.heap.size W w' := by
  subst hn
  obtain ⟨j, hj⟩ := sameb_ev l (by omega)
  refine (laws_same_byte.calls j A a l B b l true W h1 h2 h3 h4 (hj j (Nat.le_refl _))).mono ?_
  rintro e w' ⟨rfl, hd⟩
  exact ⟨rfl, hd.below⟩
theorem buildRow (W : World) (base : Nat) (hb : base ≤ W.heap.size) : (Kd.int .u8).R 5 (W.alloc (.cells #[] 5 (0, 0))) base (fun k => base ≤ k) (.slice (some ⟨W.heap.size, 0, none⟩) 0 0) [] := by
  have hs : (W.alloc (.cells #[] 5 (0, 0))).heap[W.heap.size]? = some (.cells #[] 5 (0, 0)) := blk_new W _
  refine ⟨fun k hk => ?_, [], ⟨rfl, .inr ⟨W.heap.size, 0, #[], rfl, hb, hs, Nat.le_refl _, Nat.zero_le _, rfl, rfl⟩⟩, Reps.none _ _⟩
  simp only [Value.ownBlock, Option.some.injEq] at hk
  omega
end Go.Proofs.YtckdpckdabfkbabDoor.Scan
namespace Go.Proofs.YtckdpckdabfkbabDoor.Scan
open Go.Proofs.YtckdpckdabfkbabDoorW.PrintLast
open Go.RowKit Go.Proofs.YtckdpckdabfkbabDoorW.PrintWords Go.Proofs.YtckdpckdabfkbabDoor.Plain Go.Proofs.YtckdpckdabfkbabDoor.Num Go.Proofs.YtckdpckdabfkbabDoor.PC
set_option linter.unusedVariables false
set_option linter.unusedSimpArgs false
set_option maxHeartbeats 16000000 in
set_option maxRecDepth 100000 in
theorem exact_calls (fin : Bool) (w : World) (S : Sp) (Ad Af : Option Addr) (cd cf : Nat) (D : ByteArray) (A : Option Addr) (c : Nat) (hd : (Kd.int .i32).C w Ad S.del.length S.del) (hcd : S.del.length ≤ cd) (hf : (Kd.int .i32).C w Af S.fol.length S.fol) (hcf : S.fol.length ≤ cf)
    (hwd : ∀ y ∈ S.del, -2147483648 ≤ y ∧ y ≤ 2147483647) (hwf : ∀ y ∈ S.fol, -2147483648 ≤ y ∧ y ≤ 2147483647) (hA : (Kd.int .u8).C w A D.size (seg D 0 D.size)) (hAc : D.size ≤ c) (hD9 : D.size ≤ 140737488351232)
    (ht : Lib.Utf8Tabs 1 2 w) (hw : Lib.WhiteTab 0 w) :
    Calls Tryd.prog 7 #[.agg (sv S Ad Af cd cf), .slice A D.size c, .bool fin] w fun e w' => e = .returned (.bool true) ∧ Below w.heap.size w w' := by
  obtain ⟨del, fol, skip, dbl, most⟩ := S
  obtain ⟨w1, hw1⟩ : ∃ w1, w1 = w.alloc (.cells (sv ⟨del, fol, skip, dbl, most⟩ Ad Af cd cf) 38) := ⟨_, rfl⟩
  have HB : Aside0 (Below w.heap.size w w1) := ⟨by rw [hw1]; exact below_alloc (Below.refl _ _) _⟩
  have HX : Aside0 (w1.heap[w.heap.size]? = some (.cells (sv ⟨del, fol, skip, dbl, most⟩ Ad Af cd cf) 38 (0, 0))) := ⟨by rw [hw1]; exact blk_new w _⟩
  have HCD := Aside0.mk hd
  have HCF := Aside0.mk hf
  have HA := Aside0.mk hA
  have HT := Aside0.mk ht
  have HW := Aside0.mk hw
  have HWD := Aside0.mk hwd
  have HWF := Aside0.mk hwf
  clear hd hf ht hw hA hwd hwf
  have z0 := cells_at HX.out 0 _ rfl; have z1 := cells_at HX.out 1 _ rfl; have z2 := cells_at HX.out 2 _ rfl; have z3 := cells_at HX.out 3 _ rfl; have z4 := cells_at HX.out 4 _ rfl
  go_enter Tryd.func7, Tryd.ntmps7
  go_wp2_with fail
  rw [← hw1]
  clear hw1
  by_cases hl1 : del.length ≤ 2147483647
  · by_cases hl2 : fol.length ≤ 2147483647
    · have hfb : (decide (del.length ≤ 2147483647) && decide (fol.length ≤ 2147483647)) = true := by simp [hl1, hl2]
      have HFT : Aside0 (laws_zzFits18.f del fol skip dbl most = some true) := ⟨by rw [fits_f, hfb]⟩
      clear hfb
      by_cases hD : D.size ≤ 2147483647
      · have hDb : ¬ (D.size : Int) > 2147483647 := by omega
        by_cases h3 : D.size ≤ 300
        · have h3b : ¬ (D.size : Int) > 300 := by omega
          by_cases h4 : del.length ≤ 20
          · have h4b : ¬ (del.length : Int) > 20 := by omega
            by_cases h5 : fol.length ≤ 20
            · have h5b : ¬ (fol.length : Int) > 20 := by omega
              go_upto_region 5 with (go_at_call 14; refine (laws_zzFits18.calls Ad cd del Af cf fol _ _ _ _ _ (Kd.C_below HCD.out HB.out) hcd (Kd.C_below HCF.out HB.out) hcf HFT.out).mono ?_; rintro _ W_ ⟨rfl, hb_⟩; have HB_ := Aside0.mk (HB.out.trans (hb_.mono HB.out.size)); have HX_ := Aside0.mk ((hb_.block _ (Array.getElem?_eq_some_iff.1 HX.out).1).trans HX.out); clear hb_ HB HX z0 z1 z2 z3 z4; have HB := HB_; have HX := HX_; clear HB_ HX_; have z0 := cells_at HX.out 0 _ rfl; have z1 := cells_at HX.out 1 _ rfl; have z2 := cells_at HX.out 2 _ rfl; have z3 := cells_at HX.out 3 _ rfl; have z4 := cells_at HX.out 4 _ rfl)
              have HB0 : Aside0 (Below w.heap.size w W_.drew) := ⟨below_drew HB.out⟩
              have HX0 : Aside0 (W_.drew.heap[w.heap.size]? = some (.cells (sv ⟨del, fol, skip, dbl, most⟩ Ad Af cd cf) 38 (0, 0))) := ⟨HX.out⟩
              have HB9 := HB
              have HX9 := HX
              clear HB HX z0 z1 z2 z3 z4
              have HB := HB0
              have HX := HX0
              clear HB0 HX0
              iterate 1
                refine start_ (n := 17) (S := fun w' => w'.cell? ⟨w.heap.size, 0, none⟩ = some (.slice Ad del.length cd) ∧ w'.cell? ⟨w.heap.size, 1, none⟩ = some (.slice Af fol.length cf) ∧ w'.cell? ⟨w.heap.size, 2, none⟩ = some (.bool skip) ∧ w'.cell? ⟨w.heap.size, 3, none⟩ = some (.bool dbl) ∧ w'.cell? ⟨w.heap.size, 4, none⟩ = some (.int .i64 most)) (ds := []) #[false, false, false, false, false, false, false, false, false, false, false, false, false, false, false, false, false] (by kernel_rfl) rfl rfl ⟨cells_at HX.out 0 _ rfl, cells_at HX.out 1 _ rfl, cells_at HX.out 2 _ rfl, cells_at HX.out 3 _ rfl, cells_at HX.out 4 _ rfl⟩ (fun hHeld => ?_)
                refine pure_ (i := 2) (N := some 43) (v := ?_) (a' := ?_) #[false, false, true, false, false, false, false, false, false, false, false, false, false, false, false, false, false] rfl rfl (by kernel_rfl) (fun _ _ _ h => h) (Or.inl ⟨by rfl, ?_⟩) ?_ ?_
                rotate_left
                · intro w'
                  go_simp
                  with_reducible rfl
                rotate_left
                · simp only [Act.put, List.setIfInBounds_toArray, List.set_cons_zero, List.set_cons_succ, i64_w, i32_w]
                  rfl
                refine pure_ (i := 4) (N := some 45) (v := ?_) (a' := ?_) #[false, false, true, false, true, false, false, false, false, false, false, false, false, false, false, false, false] rfl rfl (by kernel_rfl) (fun _ _ _ h => h) (Or.inl ⟨by rfl, ?_⟩) ?_ ?_
                rotate_left
                · intro w'
                  go_simp
                  with_reducible rfl
                rotate_left
                · simp only [Act.put, List.setIfInBounds_toArray, List.set_cons_zero, List.set_cons_succ, i64_w, i32_w]
                  rfl
                refine take_ (i := 0) (N := some 41) (v := ?_) (a' := ?_) #[true, false, true, false, true, false, false, false, false, false, false, false, false, false, false, false, false] rfl rfl (by kernel_rfl) (fun _ _ _ h => h) (Or.inl ⟨by rfl, ?_⟩) hHeld ?_ ?_
                rotate_left
                · rintro w' ⟨s0, s1, s2, s3, s4⟩
                  go_simp
                  with_reducible rfl
                rotate_left
                · simp only [Act.put, List.setIfInBounds_toArray, List.set_cons_zero, List.set_cons_succ, i64_w, i32_w]
                  rfl
                refine one_ (i := 1) (N := some 42) #[true, true, true, false, true, false, false, false, false, false, false, false, false, false, false, false, false] rfl rfl (by kernel_rfl) (by decide) (fun K hK => ?_)
                refine value_ (w1 := ?_) (v := ?_) (by rfl) rfl ?_ ?_
                rotate_left 2
                · go_simp
                  constructor
                  · rfl
                  · rfl
                have HR0 : Aside0 ((Kd.int .u8).R 5 (W_.alloc (.cells #[] 5 (0, 0))).drew W_.heap.size (fun k => W_.heap.size ≤ k) (.slice (some ⟨W_.heap.size, 0, none⟩) 0 0) []) := ⟨Kd.R_drew (buildRow W_ _ (Nat.le_refl _))⟩
                have HBW : Aside0 (Below W_.heap.size W_ (W_.alloc (.cells #[] 5 (0, 0))).drew) := ⟨below_drew (below_alloc (Below.refl _ _) _)⟩
                have HB1 := Aside0.mk (HB9.out.trans (HBW.out.mono HB9.out.size))
                have HX1 := Aside0.mk ((HBW.out.block _ (Array.getElem?_eq_some_iff.1 HX9.out).1).trans HX9.out)
                obtain ⟨Wb, hWb⟩ : ∃ Wb, Wb = (W_.alloc (.cells #[] 5 (0, 0))).drew := ⟨_, rfl⟩
                rw [← hWb] at HR0 HB1 HX1 HBW ⊢
                clear hWb HB HX
                have HB := HB1
                have HX := HX1
                clear HB1 HX1
                refine hK.out _ _ ⟨cells_at HX.out 0 _ rfl, cells_at HX.out 1 _ rfl, cells_at HX.out 2 _ rfl, cells_at HX.out 3 _ rfl, cells_at HX.out 4 _ rfl⟩ (fun hHeld => ?_)
                clear hK K
                refine norm_ (a' := ?_) ?_ ?_
                rotate_left
                · show Act.put _ (some 42) _ = _
                  simp only [Act.put, List.setIfInBounds_toArray, List.set_cons_zero, List.set_cons_succ, i64_w, i32_w]
                  rfl
                refine one_ (i := 3) (N := some 44) #[true, true, true, true, true, false, false, false, false, false, false, false, false, false, false, false, false] rfl rfl (by kernel_rfl) (by decide) (fun K hK => ?_)
                refine Kd.R_append_rows_step (Kd.int .u8) (Rr := (Kd.int .u8).K Wb) (w0 := Wb) W_.heap.size (by rfl) (.tmp 42) (.tmp 43) 22 5 (.int .u8 0) 1 rfl Tryd.underlying22 (by kernel_rfl) rfl (by decide) (by decide) (.slice (some ⟨W_.heap.size, 0, none⟩) 0 0) [] (seg D 0 D.size) A D.size c (fun k => W_.heap.size ≤ k) (fun _ => False) (by rfl) ?aXp HR0.out (Kd.C_below HA.out HB.out) (fun _ _ h_ => h_) (fun _ h_ => h_.elim) (fun k hk => Nat.le_trans HBW.out.size hk) (Below.refl _ _) HBW.out.size ?aLp ?_
                (case aXp => first | rfl | (go_simp; done) | (go_simp; rfl))
                (case aLp => simp; omega)
                intro v1_ w1_ hR1 hB1 hG1 hA1
                rw [List.nil_append] at hR1
                obtain ⟨Aa, ca, ea, la, hCa⟩ := Kd.R_reads hR1
                subst ea
                rw [seg_len] at la hCa ⊢
                have HCa := Aside0.mk hCa
                have hBW := HBW.out.trans hB1
                have HB1_ := Aside0.mk (HB9.out.trans (hBW.mono HB9.out.size))
                have HX1_ := Aside0.mk ((hBW.block _ (Array.getElem?_eq_some_iff.1 HX9.out).1).trans HX9.out)
                clear HB HX hR1 hB1 hG1 hA1 hCa HR0 HBW hBW HB9 HX9
                have HB := HB1_
                have HX := HX1_
                clear HB1_ HX1_
                refine hK.out _ _ ⟨cells_at HX.out 0 _ rfl, cells_at HX.out 1 _ rfl, cells_at HX.out 2 _ rfl, cells_at HX.out 3 _ rfl, cells_at HX.out 4 _ rfl⟩ (fun hHeld => ?_)
                clear hK K
                refine norm_ (a' := ?_) ?_ ?_
                rotate_left
                · show Act.put _ (some 44) _ = _
                  simp only [Act.put, List.setIfInBounds_toArray, List.set_cons_zero, List.set_cons_succ, i64_w, i32_w]
                  rfl
                refine one_ (i := 5) (N := some 46) #[true, true, true, true, true, true, false, false, false, false, false, false, false, false, false, false, false] rfl rfl (by kernel_rfl) (by decide) (fun K hK => ?_)
                refine goes_ Tryd.func23 (by kernel_rfl) rfl #[.agg #[.slice Ad del.length cd, .slice Af fol.length cf, .bool skip, .bool dbl, .int .i64 most], .slice Aa D.size ca, .bool fin] (by rfl) rfl rfl (by simp only [List.map_toArray, List.map_cons, List.map_nil]; rfl) ?_
                with_reducible refine (specQ_calls fin _ ⟨del, fol, skip, dbl, most⟩ Ad Af cd cf D Aa ca (Kd.C_below HCD.out HB.out) hcd (Kd.C_below HCF.out HB.out) hcf HWD.out HWF.out HCa.out la h3 hl1 hl2 (WhiteTab_below HW.out HB.out) (Utf8Tabs_below HT.out HB.out)).mono ?_
                rintro _ W5_ ⟨n5, v5, ok5, vb5, sd5, rfl, hq, hb_⟩
                refine ⟨_, rfl, ?_⟩
                have HQ := Aside0.mk hq
                clear hq
                have HB1_ := Aside0.mk (HB.out.trans (hb_.mono HB.out.size))
                have HX1_ := Aside0.mk ((hb_.block _ (Array.getElem?_eq_some_iff.1 HX.out).1).trans HX.out)
                clear HB HX
                have HB := HB1_
                have HX := HX1_
                clear HB1_ HX1_
                refine hK.out _ _ ⟨cells_at HX.out 0 _ rfl, cells_at HX.out 1 _ rfl, cells_at HX.out 2 _ rfl, cells_at HX.out 3 _ rfl, cells_at HX.out 4 _ rfl⟩ (fun hHeld => ?_)
                clear hK K
                refine norm_ (a' := ?_) ?_ ?_
                rotate_left
                · show Act.put _ (some 46) _ = _
                  simp only [Act.put, List.setIfInBounds_toArray, List.set_cons_zero, List.set_cons_succ, i64_w, i32_w]
                  rfl
                refine pure_ (i := 6) (N := some 40) (v := ?_) (a' := ?_) #[true, true, true, true, true, true, true, false, false, false, false, false, false, false, false, false, false] rfl rfl (by kernel_rfl) (fun _ _ _ h => h) (Or.inl ⟨by rfl, ?_⟩) ?_ ?_
                rotate_left
                · intro w'
                  go_simp
                  with_reducible rfl
                rotate_left
                · simp only [Act.put, List.setIfInBounds_toArray, List.set_cons_zero, List.set_cons_succ, i64_w, i32_w]
                  rfl
                refine pure_ (i := 7) (N := some 47) (v := ?_) (a' := ?_) #[true, true, true, true, true, true, true, true, false, false, false, false, false, false, false, false, false] rfl rfl (by kernel_rfl) (fun _ _ _ h => h) (Or.inl ⟨by rfl, ?_⟩) ?_ ?_
                rotate_left
                · intro w'
                  go_simp
                  with_reducible rfl
                rotate_left
                · simp only [Act.put, List.setIfInBounds_toArray, List.set_cons_zero, List.set_cons_succ, i64_w, i32_w]
                  rfl
                refine pure_ (i := 8) (N := some 48) (v := ?_) (a' := ?_) #[true, true, true, true, true, true, true, true, true, false, false, false, false, false, false, false, false] rfl rfl (by kernel_rfl) (fun _ _ _ h => h) (Or.inl ⟨by rfl, ?_⟩) ?_ ?_
                rotate_left
                · intro w'
                  go_simp
                  with_reducible rfl
                rotate_left
                · simp only [Act.put, List.setIfInBounds_toArray, List.set_cons_zero, List.set_cons_succ, i64_w, i32_w]
                  rfl
                refine pure_ (i := 9) (N := some 49) (v := ?_) (a' := ?_) #[true, true, true, true, true, true, true, true, true, true, false, false, false, false, false, false, false] rfl rfl (by kernel_rfl) (fun _ _ _ h => h) (Or.inl ⟨by rfl, ?_⟩) ?_ ?_
                rotate_left
                · intro w'
                  go_simp
                  with_reducible rfl
                rotate_left
                · simp only [Act.put, List.setIfInBounds_toArray, List.set_cons_zero, List.set_cons_succ, i64_w, i32_w]
                  rfl
                refine pure_ (i := 10) (N := some 50) (v := ?_) (a' := ?_) #[true, true, true, true, true, true, true, true, true, true, true, false, false, false, false, false, false] rfl rfl (by kernel_rfl) (fun _ _ _ h => h) (Or.inl ⟨by rfl, ?_⟩) ?_ ?_
                rotate_left
                · intro w'
                  go_simp
                  with_reducible rfl
                rotate_left
                · simp only [Act.put, List.setIfInBounds_toArray, List.set_cons_zero, List.set_cons_succ, i64_w, i32_w]
                  rfl
                refine pure_ (i := 11) (N := some 51) (v := ?_) (a' := ?_) #[true, true, true, true, true, true, true, true, true, true, true, true, false, false, false, false, false] rfl rfl (by kernel_rfl) (fun _ _ _ h => h) (Or.inl ⟨by rfl, ?_⟩) ?_ ?_
                rotate_left
                · intro w'
                  go_simp
                  with_reducible rfl
                rotate_left
                · simp only [Act.put, List.setIfInBounds_toArray, List.set_cons_zero, List.set_cons_succ, i64_w, i32_w]
                  rfl
                refine pure_ (i := 12) (N := some 7) (v := ?_) (a' := ?_) #[true, true, true, true, true, true, true, true, true, true, true, true, true, false, false, false, false] rfl rfl (by kernel_rfl) (fun _ _ _ h => h) (Or.inl ⟨by rfl, ?_⟩) ?_ ?_
                rotate_left
                · intro w'
                  go_simp
                  with_reducible rfl
                rotate_left
                · simp only [Act.put, List.setIfInBounds_toArray, List.set_cons_zero, List.set_cons_succ, i64_w, i32_w]
                  rfl
                refine pure_ (i := 13) (N := some 8) (v := ?_) (a' := ?_) #[true, true, true, true, true, true, true, true, true, true, true, true, true, true, false, false, false] rfl rfl (by kernel_rfl) (fun _ _ _ h => h) (Or.inl ⟨by rfl, ?_⟩) ?_ ?_
                rotate_left
                · intro w'
                  go_simp
                  with_reducible rfl
                rotate_left
                · simp only [Act.put, List.setIfInBounds_toArray, List.set_cons_zero, List.set_cons_succ, i64_w, i32_w]
                  rfl
                refine pure_ (i := 14) (N := some 9) (v := ?_) (a' := ?_) #[true, true, true, true, true, true, true, true, true, true, true, true, true, true, true, false, false] rfl rfl (by kernel_rfl) (fun _ _ _ h => h) (Or.inl ⟨by rfl, ?_⟩) ?_ ?_
                rotate_left
                · intro w'
                  go_simp
                  with_reducible rfl
                rotate_left
                · simp only [Act.put, List.setIfInBounds_toArray, List.set_cons_zero, List.set_cons_succ, i64_w, i32_w]
                  rfl
                refine pure_ (i := 15) (N := some 10) (v := ?_) (a' := ?_) #[true, true, true, true, true, true, true, true, true, true, true, true, true, true, true, true, false] rfl rfl (by kernel_rfl) (fun _ _ _ h => h) (Or.inl ⟨by rfl, ?_⟩) ?_ ?_
                rotate_left
                · intro w'
                  go_simp
                  with_reducible rfl
                rotate_left
                · simp only [Act.put, List.setIfInBounds_toArray, List.set_cons_zero, List.set_cons_succ, i64_w, i32_w]
                  rfl
                refine pure_ (i := 16) (N := some 11) (v := ?_) (a' := ?_) #[true, true, true, true, true, true, true, true, true, true, true, true, true, true, true, true, true] rfl rfl (by kernel_rfl) (fun _ _ _ h => h) (Or.inl ⟨by rfl, ?_⟩) ?_ ?_
                rotate_left
                · intro w'
                  go_simp
                  with_reducible rfl
                rotate_left
                · simp only [Act.put, List.setIfInBounds_toArray, List.set_cons_zero, List.set_cons_succ, i64_w, i32_w]
                  rfl
                refine done_ (by kernel_rfl) ?_
              have z0 := cells_at HX.out 0 _ rfl; have z1 := cells_at HX.out 1 _ rfl; have z2 := cells_at HX.out 2 _ rfl; have z3 := cells_at HX.out 3 _ rfl; have z4 := cells_at HX.out 4 _ rfl
              cases sd5 with
              | false =>
                go_wp2_with (go_at_call 17; refine (parts_calls _ (Utf8Tabs_below HT.out HB.out) (WhiteTab_below HW.out HB.out)).mono ?_; rintro _ W_ ⟨rfl, hb_⟩; have HB_ := Aside0.mk (HB.out.trans (hb_.mono HB.out.size)); have HX_ := Aside0.mk ((hb_.block _ (Array.getElem?_eq_some_iff.1 HX.out).1).trans HX.out); clear hb_ HB HX z0 z1 z2 z3 z4; have HB := HB_; have HX := HX_; clear HB_ HX_; have z0 := cells_at HX.out 0 _ rfl; have z1 := cells_at HX.out 1 _ rfl; have z2 := cells_at HX.out 2 _ rfl; have z3 := cells_at HX.out 3 _ rfl; have z4 := cells_at HX.out 4 _ rfl)
                go_ret
                exact ⟨rfl, HB.out⟩
              | true =>
                obtain ⟨R, Ab5, cb5, rfl, rfl, rfl, hs, hs0, ⟨Av, cv, rfl, hlv, hCv⟩, hlb, hCb⟩ := HQ.out rfl
                have HSc := Aside0.mk hs
                have HS0 := Aside0.mk hs0
                have HC1 := Aside0.mk hCv
                have HC2 := Aside0.mk hCb
                clear hs hs0 hCv hCb HQ
                go_upto_region 8 with fail
                have HB0 : Aside0 (Below w.heap.size w W5_.drew) := ⟨below_drew HB.out⟩
                have HX0 : Aside0 (W5_.drew.heap[w.heap.size]? = some (.cells (sv ⟨del, fol, skip, dbl, most⟩ Ad Af cd cf) 38 (0, 0))) := ⟨HX.out⟩
                have HB9 := HB
                have HX9 := HX
                clear HB HX z0 z1 z2 z3 z4
                have HB := HB0
                have HX := HX0
                clear HB0 HX0
                iterate 1
                  refine start_ (n := 15) (S := fun w' => w'.cell? ⟨w.heap.size, 0, none⟩ = some (.slice Ad del.length cd) ∧ w'.cell? ⟨w.heap.size, 1, none⟩ = some (.slice Af fol.length cf) ∧ w'.cell? ⟨w.heap.size, 2, none⟩ = some (.bool skip) ∧ w'.cell? ⟨w.heap.size, 3, none⟩ = some (.bool dbl) ∧ w'.cell? ⟨w.heap.size, 4, none⟩ = some (.int .i64 most)) (ds := []) #[false, false, false, false, false, false, false, false, false, false, false, false, false, false, false] (by kernel_rfl) rfl rfl ⟨cells_at HX.out 0 _ rfl, cells_at HX.out 1 _ rfl, cells_at HX.out 2 _ rfl, cells_at HX.out 3 _ rfl, cells_at HX.out 4 _ rfl⟩ (fun hHeld => ?_)
                  refine pure_ (i := 2) (N := some 58) (v := ?_) (a' := ?_) #[false, false, true, false, false, false, false, false, false, false, false, false, false, false, false] rfl rfl (by kernel_rfl) (fun _ _ _ h => h) (Or.inl ⟨by rfl, ?_⟩) ?_ ?_
                  rotate_left
                  · intro w'
                    go_simp
                    with_reducible rfl
                  rotate_left
                  · simp only [Act.put, List.setIfInBounds_toArray, List.set_cons_zero, List.set_cons_succ, i64_w, i32_w]
                    rfl
                  refine pure_ (i := 4) (N := some 60) (v := ?_) (a' := ?_) #[false, false, true, false, true, false, false, false, false, false, false, false, false, false, false] rfl rfl (by kernel_rfl) (fun _ _ _ h => h) (Or.inl ⟨by rfl, ?_⟩) ?_ ?_
                  rotate_left
                  · intro w'
                    go_simp
                    with_reducible rfl
                  rotate_left
                  · simp only [Act.put, List.setIfInBounds_toArray, List.set_cons_zero, List.set_cons_succ, i64_w, i32_w]
                    rfl
                  refine take_ (i := 0) (N := some 56) (v := ?_) (a' := ?_) #[true, false, true, false, true, false, false, false, false, false, false, false, false, false, false] rfl rfl (by kernel_rfl) (fun _ _ _ h => h) (Or.inl ⟨by rfl, ?_⟩) hHeld ?_ ?_
                  rotate_left
                  · rintro w' ⟨s0, s1, s2, s3, s4⟩
                    go_simp
                    with_reducible rfl
                  rotate_left
                  · simp only [Act.put, List.setIfInBounds_toArray, List.set_cons_zero, List.set_cons_succ, i64_w, i32_w]
                    rfl
                  refine one_ (i := 1) (N := some 57) #[true, true, true, false, true, false, false, false, false, false, false, false, false, false, false] rfl rfl (by kernel_rfl) (by decide) (fun K hK => ?_)
                  refine value_ (w1 := ?_) (v := ?_) (by rfl) rfl ?_ ?_
                  rotate_left 2
                  · go_simp
                    constructor
                    · rfl
                    · rfl
                  have HR0 : Aside0 ((Kd.int .u8).R 5 (W5_.alloc (.cells #[] 5 (0, 0))).drew W5_.heap.size (fun k => W5_.heap.size ≤ k) (.slice (some ⟨W5_.heap.size, 0, none⟩) 0 0) []) := ⟨Kd.R_drew (buildRow W5_ _ (Nat.le_refl _))⟩
                  have HBW : Aside0 (Below W5_.heap.size W5_ (W5_.alloc (.cells #[] 5 (0, 0))).drew) := ⟨below_drew (below_alloc (Below.refl _ _) _)⟩
                  have HB1 := Aside0.mk (HB9.out.trans (HBW.out.mono HB9.out.size))
                  have HX1 := Aside0.mk ((HBW.out.block _ (Array.getElem?_eq_some_iff.1 HX9.out).1).trans HX9.out)
                  obtain ⟨Wb, hWb⟩ : ∃ Wb, Wb = (W5_.alloc (.cells #[] 5 (0, 0))).drew := ⟨_, rfl⟩
                  rw [← hWb] at HR0 HB1 HX1 HBW ⊢
                  clear hWb HB HX
                  have HB := HB1
                  have HX := HX1
                  clear HB1 HX1
                  refine hK.out _ _ ⟨cells_at HX.out 0 _ rfl, cells_at HX.out 1 _ rfl, cells_at HX.out 2 _ rfl, cells_at HX.out 3 _ rfl, cells_at HX.out 4 _ rfl⟩ (fun hHeld => ?_)
                  clear hK K
                  refine norm_ (a' := ?_) ?_ ?_
                  rotate_left
                  · show Act.put _ (some 57) _ = _
                    simp only [Act.put, List.setIfInBounds_toArray, List.set_cons_zero, List.set_cons_succ, i64_w, i32_w]
                    rfl
                  refine one_ (i := 3) (N := some 59) #[true, true, true, true, true, false, false, false, false, false, false, false, false, false, false] rfl rfl (by kernel_rfl) (by decide) (fun K hK => ?_)
                  refine Kd.R_append_rows_step (Kd.int .u8) (Rr := (Kd.int .u8).K Wb) (w0 := Wb) W5_.heap.size (by rfl) (.tmp 57) (.tmp 58) 22 5 (.int .u8 0) 1 rfl Tryd.underlying22 (by kernel_rfl) rfl (by decide) (by decide) (.slice (some ⟨W5_.heap.size, 0, none⟩) 0 0) [] (seg D 0 D.size) A D.size c (fun k => W5_.heap.size ≤ k) (fun _ => False) (by rfl) ?aXq HR0.out (Kd.C_below HA.out HB.out) (fun _ _ h_ => h_) (fun _ h_ => h_.elim) (fun k hk => Nat.le_trans HBW.out.size hk) (Below.refl _ _) HBW.out.size ?aLq ?_
                  (case aXq => first | rfl | (go_simp; done) | (go_simp; rfl))
                  (case aLq => simp; omega)
                  intro v1_ w1_ hR1 hB1 hG1 hA1
                  rw [List.nil_append] at hR1
                  obtain ⟨Aa, ca, ea, la, hCa⟩ := Kd.R_reads hR1
                  subst ea
                  rw [seg_len] at la hCa ⊢
                  have HCa := Aside0.mk hCa
                  have hBW := HBW.out.trans hB1
                  have HB1_ := Aside0.mk (HB9.out.trans (hBW.mono HB9.out.size))
                  have HX1_ := Aside0.mk ((hBW.block _ (Array.getElem?_eq_some_iff.1 HX9.out).1).trans HX9.out)
                  have HC1_ := Aside0.mk (Kd.C_below HC1.out hBW)
                  have HC2_ := Aside0.mk (Kd.C_below HC2.out hBW)
                  clear HC1 HC2
                  have HC1 := HC1_
                  have HC2 := HC2_
                  clear HC1_ HC2_
                  clear HB HX hR1 hB1 hG1 hA1 hCa HR0 HBW hBW HB9 HX9
                  have HB := HB1_
                  have HX := HX1_
                  clear HB1_ HX1_
                  refine hK.out _ _ ⟨cells_at HX.out 0 _ rfl, cells_at HX.out 1 _ rfl, cells_at HX.out 2 _ rfl, cells_at HX.out 3 _ rfl, cells_at HX.out 4 _ rfl⟩ (fun hHeld => ?_)
                  clear hK K
                  refine norm_ (a' := ?_) ?_ ?_
                  rotate_left
                  · show Act.put _ (some 59) _ = _
                    simp only [Act.put, List.setIfInBounds_toArray, List.set_cons_zero, List.set_cons_succ, i64_w, i32_w]
                    rfl
                  refine one_ (i := 5) (N := some 61) #[true, true, true, true, true, true, false, false, false, false, false, false, false, false, false] rfl rfl (by kernel_rfl) (by decide) (fun K hK => ?_)
                  refine goes_ Tryd.func21 (by kernel_rfl) rfl #[.agg #[.slice Ad del.length cd, .slice Af fol.length cf, .bool skip, .bool dbl, .int .i64 most], .slice Aa D.size ca, .bool fin] (by rfl) rfl rfl (by simp only [List.map_toArray, List.map_cons, List.map_nil]; rfl) ?_
                  with_reducible refine (scanK_calls fin _ ⟨del, fol, skip, dbl, most⟩ Ad Af cd cf D Aa ca (Kd.C_below HCD.out HB.out) hcd (Kd.C_below HCF.out HB.out) hcf hl1 hl2 HCa.out la (by omega) (Utf8Tabs_below HT.out HB.out) (WhiteTab_below HW.out HB.out) R HSc.out HS0.out).mono ?_
                  rintro _ W8_ ⟨v_, Ab_, cb_, rfl, hv_, hcb_, hCb_, hb_⟩
                  refine ⟨_, rfl, ?_⟩
                  have HC1_ := Aside0.mk (Kd.C_below HC1.out hb_)
                  have HC2_ := Aside0.mk (Kd.C_below HC2.out hb_)
                  clear HC1 HC2
                  have HC1 := HC1_
                  have HC2 := HC2_
                  clear HC1_ HC2_
                  have HB1_ := Aside0.mk (HB.out.trans (hb_.mono HB.out.size))
                  have HX1_ := Aside0.mk ((hb_.block _ (Array.getElem?_eq_some_iff.1 HX.out).1).trans HX.out)
                  clear HB HX
                  have HB := HB1_
                  have HX := HX1_
                  clear HB1_ HX1_
                  refine hK.out _ _ ⟨cells_at HX.out 0 _ rfl, cells_at HX.out 1 _ rfl, cells_at HX.out 2 _ rfl, cells_at HX.out 3 _ rfl, cells_at HX.out 4 _ rfl⟩ (fun hHeld => ?_)
                  clear hK K
                  refine norm_ (a' := ?_) ?_ ?_
                  rotate_left
                  · show Act.put _ (some 61) _ = _
                    simp only [Act.put, List.setIfInBounds_toArray, List.set_cons_zero, List.set_cons_succ, i64_w, i32_w]
                    rfl
                  refine pure_ (i := 6) (N := some 55) (v := ?_) (a' := ?_) #[true, true, true, true, true, true, true, false, false, false, false, false, false, false, false] rfl rfl (by kernel_rfl) (fun _ _ _ h => h) (Or.inl ⟨by rfl, ?_⟩) ?_ ?_
                  rotate_left
                  · intro w'
                    go_simp
                    with_reducible rfl
                  rotate_left
                  · simp only [Act.put, List.setIfInBounds_toArray, List.set_cons_zero, List.set_cons_succ, i64_w, i32_w]
                    rfl
                  refine pure_ (i := 7) (N := some 62) (v := ?_) (a' := ?_) #[true, true, true, true, true, true, true, true, false, false, false, false, false, false, false] rfl rfl (by kernel_rfl) (fun _ _ _ h => h) (Or.inl ⟨by rfl, ?_⟩) ?_ ?_
                  rotate_left
                  · intro w'
                    go_simp
                    with_reducible rfl
                  rotate_left
                  · simp only [Act.put, List.setIfInBounds_toArray, List.set_cons_zero, List.set_cons_succ, i64_w, i32_w]
                    rfl
                  refine pure_ (i := 8) (N := some 63) (v := ?_) (a' := ?_) #[true, true, true, true, true, true, true, true, true, false, false, false, false, false, false] rfl rfl (by kernel_rfl) (fun _ _ _ h => h) (Or.inl ⟨by rfl, ?_⟩) ?_ ?_
                  rotate_left
                  · intro w'
                    go_simp
                    with_reducible rfl
                  rotate_left
                  · simp only [Act.put, List.setIfInBounds_toArray, List.set_cons_zero, List.set_cons_succ, i64_w, i32_w]
                    rfl
                  refine pure_ (i := 9) (N := some 64) (v := ?_) (a' := ?_) #[true, true, true, true, true, true, true, true, true, true, false, false, false, false, false] rfl rfl (by kernel_rfl) (fun _ _ _ h => h) (Or.inl ⟨by rfl, ?_⟩) ?_ ?_
                  rotate_left
                  · intro w'
                    go_simp
                    with_reducible rfl
                  rotate_left
                  · simp only [Act.put, List.setIfInBounds_toArray, List.set_cons_zero, List.set_cons_succ, i64_w, i32_w]
                    rfl
                  refine pure_ (i := 10) (N := some 65) (v := ?_) (a' := ?_) #[true, true, true, true, true, true, true, true, true, true, true, false, false, false, false] rfl rfl (by kernel_rfl) (fun _ _ _ h => h) (Or.inl ⟨by rfl, ?_⟩) ?_ ?_
                  rotate_left
                  · intro w'
                    go_simp
                    with_reducible rfl
                  rotate_left
                  · simp only [Act.put, List.setIfInBounds_toArray, List.set_cons_zero, List.set_cons_succ, i64_w, i32_w]
                    rfl
                  refine pure_ (i := 11) (N := some 12) (v := ?_) (a' := ?_) #[true, true, true, true, true, true, true, true, true, true, true, true, false, false, false] rfl rfl (by kernel_rfl) (fun _ _ _ h => h) (Or.inl ⟨by rfl, ?_⟩) ?_ ?_
                  rotate_left
                  · intro w'
                    go_simp
                    with_reducible rfl
                  rotate_left
                  · simp only [Act.put, List.setIfInBounds_toArray, List.set_cons_zero, List.set_cons_succ, i64_w, i32_w]
                    rfl
                  refine pure_ (i := 12) (N := some 13) (v := ?_) (a' := ?_) #[true, true, true, true, true, true, true, true, true, true, true, true, true, false, false] rfl rfl (by kernel_rfl) (fun _ _ _ h => h) (Or.inl ⟨by rfl, ?_⟩) ?_ ?_
                  rotate_left
                  · intro w'
                    go_simp
                    with_reducible rfl
                  rotate_left
                  · simp only [Act.put, List.setIfInBounds_toArray, List.set_cons_zero, List.set_cons_succ, i64_w, i32_w]
                    rfl
                  refine pure_ (i := 13) (N := some 14) (v := ?_) (a' := ?_) #[true, true, true, true, true, true, true, true, true, true, true, true, true, true, false] rfl rfl (by kernel_rfl) (fun _ _ _ h => h) (Or.inl ⟨by rfl, ?_⟩) ?_ ?_
                  rotate_left
                  · intro w'
                    go_simp
                    with_reducible rfl
                  rotate_left
                  · simp only [Act.put, List.setIfInBounds_toArray, List.set_cons_zero, List.set_cons_succ, i64_w, i32_w]
                    rfl
                  refine pure_ (i := 14) (N := some 15) (v := ?_) (a' := ?_) #[true, true, true, true, true, true, true, true, true, true, true, true, true, true, true] rfl rfl (by kernel_rfl) (fun _ _ _ h => h) (Or.inl ⟨by rfl, ?_⟩) ?_ ?_
                  rotate_left
                  · intro w'
                    go_simp
                    with_reducible rfl
                  rotate_left
                  · simp only [Act.put, List.setIfInBounds_toArray, List.set_cons_zero, List.set_cons_succ, i64_w, i32_w]
                    rfl
                  refine done_ (by kernel_rfl) ?_
                have z0 := cells_at HX.out 0 _ rfl; have z1 := cells_at HX.out 1 _ rfl; have z2 := cells_at HX.out 2 _ rfl; have z3 := cells_at HX.out 3 _ rfl; have z4 := cells_at HX.out 4 _ rfl
                obtain ⟨Aw, cw, rfl, hlw, hCw⟩ := hv_
                have HC3 := Aside0.mk hCw
                have HC4 := Aside0.mk hCb_
                clear hCw hCb_
                have htl := tk_le HSc.out HS0.out
                go_wp2_with fail
                refine (same_calls R.tk R.tk.length rfl (by omega) Aw Av cw cv _ HC3.out hlw HC1.out hlv).mono ?_
                rintro _ W_ ⟨rfl, hb_⟩
                have HC2_ := Aside0.mk (Kd.C_below HC2.out hb_)
                have HC4_ := Aside0.mk (Kd.C_below HC4.out hb_)
                have HB_ := Aside0.mk (HB.out.trans (hb_.mono HB.out.size)); have HX_ := Aside0.mk ((hb_.block _ (Array.getElem?_eq_some_iff.1 HX.out).1).trans HX.out); clear hb_ HB HX z0 z1 z2 z3 z4; have HB := HB_; have HX := HX_; clear HB_ HX_; have z0 := cells_at HX.out 0 _ rfl; have z1 := cells_at HX.out 1 _ rfl; have z2 := cells_at HX.out 2 _ rfl; have z3 := cells_at HX.out 3 _ rfl; have z4 := cells_at HX.out 4 _ rfl
                go_wp2_with fail
                refine (same_calls ((List.range D.size).map (R.mem D)) D.size (by simp) (by omega) Ab_ Ab5 cb_ cb5 _ HC4_.out hcb_ HC2_.out hlb).mono ?_
                rintro _ W_ ⟨rfl, hb_⟩
                have HB_ := Aside0.mk (HB.out.trans (hb_.mono HB.out.size)); have HX_ := Aside0.mk ((hb_.block _ (Array.getElem?_eq_some_iff.1 HX.out).1).trans HX.out); clear hb_ HB HX z0 z1 z2 z3 z4; have HB := HB_; have HX := HX_; clear HB_ HX_; have z0 := cells_at HX.out 0 _ rfl; have z1 := cells_at HX.out 1 _ rfl; have z2 := cells_at HX.out 2 _ rfl; have z3 := cells_at HX.out 3 _ rfl; have z4 := cells_at HX.out 4 _ rfl
                go_wp2_with (go_at_call 17; refine (parts_calls _ (Utf8Tabs_below HT.out HB.out) (WhiteTab_below HW.out HB.out)).mono ?_; rintro _ W_ ⟨rfl, hb_⟩; have HB_ := Aside0.mk (HB.out.trans (hb_.mono HB.out.size)); have HX_ := Aside0.mk ((hb_.block _ (Array.getElem?_eq_some_iff.1 HX.out).1).trans HX.out); clear hb_ HB HX z0 z1 z2 z3 z4; have HB := HB_; have HX := HX_; clear HB_ HX_; have z0 := cells_at HX.out 0 _ rfl; have z1 := cells_at HX.out 1 _ rfl; have z2 := cells_at HX.out 2 _ rfl; have z3 := cells_at HX.out 3 _ rfl; have z4 := cells_at HX.out 4 _ rfl)
                go_ret
                exact ⟨rfl, HB.out⟩
            · have h5b : (fol.length : Int) > 20 := by omega
              go_wp2_with (first | (go_at_call 14; refine (laws_zzFits18.calls Ad cd del Af cf fol _ _ _ _ _ (Kd.C_below HCD.out HB.out) hcd (Kd.C_below HCF.out HB.out) hcf HFT.out).mono ?_; rintro _ W_ ⟨rfl, hb_⟩; have HB_ := Aside0.mk (HB.out.trans (hb_.mono HB.out.size)); have HX_ := Aside0.mk ((hb_.block _ (Array.getElem?_eq_some_iff.1 HX.out).1).trans HX.out); clear hb_ HB HX z0 z1 z2 z3 z4; have HB := HB_; have HX := HX_; clear HB_ HX_; have z0 := cells_at HX.out 0 _ rfl; have z1 := cells_at HX.out 1 _ rfl; have z2 := cells_at HX.out 2 _ rfl; have z3 := cells_at HX.out 3 _ rfl; have z4 := cells_at HX.out 4 _ rfl) | (go_at_call 17; refine (parts_calls _ (Utf8Tabs_below HT.out HB.out) (WhiteTab_below HW.out HB.out)).mono ?_; rintro _ W_ ⟨rfl, hb_⟩; have HB_ := Aside0.mk (HB.out.trans (hb_.mono HB.out.size)); have HX_ := Aside0.mk ((hb_.block _ (Array.getElem?_eq_some_iff.1 HX.out).1).trans HX.out); clear hb_ HB HX z0 z1 z2 z3 z4; have HB := HB_; have HX := HX_; clear HB_ HX_; have z0 := cells_at HX.out 0 _ rfl; have z1 := cells_at HX.out 1 _ rfl; have z2 := cells_at HX.out 2 _ rfl; have z3 := cells_at HX.out 3 _ rfl; have z4 := cells_at HX.out 4 _ rfl))
              go_ret
              exact ⟨rfl, HB.out⟩
          · have h4b : (del.length : Int) > 20 := by omega
            go_wp2_with (first | (go_at_call 14; refine (laws_zzFits18.calls Ad cd del Af cf fol _ _ _ _ _ (Kd.C_below HCD.out HB.out) hcd (Kd.C_below HCF.out HB.out) hcf HFT.out).mono ?_; rintro _ W_ ⟨rfl, hb_⟩; have HB_ := Aside0.mk (HB.out.trans (hb_.mono HB.out.size)); have HX_ := Aside0.mk ((hb_.block _ (Array.getElem?_eq_some_iff.1 HX.out).1).trans HX.out); clear hb_ HB HX z0 z1 z2 z3 z4; have HB := HB_; have HX := HX_; clear HB_ HX_; have z0 := cells_at HX.out 0 _ rfl; have z1 := cells_at HX.out 1 _ rfl; have z2 := cells_at HX.out 2 _ rfl; have z3 := cells_at HX.out 3 _ rfl; have z4 := cells_at HX.out 4 _ rfl) | (go_at_call 17; refine (parts_calls _ (Utf8Tabs_below HT.out HB.out) (WhiteTab_below HW.out HB.out)).mono ?_; rintro _ W_ ⟨rfl, hb_⟩; have HB_ := Aside0.mk (HB.out.trans (hb_.mono HB.out.size)); have HX_ := Aside0.mk ((hb_.block _ (Array.getElem?_eq_some_iff.1 HX.out).1).trans HX.out); clear hb_ HB HX z0 z1 z2 z3 z4; have HB := HB_; have HX := HX_; clear HB_ HX_; have z0 := cells_at HX.out 0 _ rfl; have z1 := cells_at HX.out 1 _ rfl; have z2 := cells_at HX.out 2 _ rfl; have z3 := cells_at HX.out 3 _ rfl; have z4 := cells_at HX.out 4 _ rfl))
            go_ret
            exact ⟨rfl, HB.out⟩
        · have h3b : (D.size : Int) > 300 := by omega
          go_wp2_with (first | (go_at_call 14; refine (laws_zzFits18.calls Ad cd del Af cf fol _ _ _ _ _ (Kd.C_below HCD.out HB.out) hcd (Kd.C_below HCF.out HB.out) hcf HFT.out).mono ?_; rintro _ W_ ⟨rfl, hb_⟩; have HB_ := Aside0.mk (HB.out.trans (hb_.mono HB.out.size)); have HX_ := Aside0.mk ((hb_.block _ (Array.getElem?_eq_some_iff.1 HX.out).1).trans HX.out); clear hb_ HB HX z0 z1 z2 z3 z4; have HB := HB_; have HX := HX_; clear HB_ HX_; have z0 := cells_at HX.out 0 _ rfl; have z1 := cells_at HX.out 1 _ rfl; have z2 := cells_at HX.out 2 _ rfl; have z3 := cells_at HX.out 3 _ rfl; have z4 := cells_at HX.out 4 _ rfl) | (go_at_call 17; refine (parts_calls _ (Utf8Tabs_below HT.out HB.out) (WhiteTab_below HW.out HB.out)).mono ?_; rintro _ W_ ⟨rfl, hb_⟩; have HB_ := Aside0.mk (HB.out.trans (hb_.mono HB.out.size)); have HX_ := Aside0.mk ((hb_.block _ (Array.getElem?_eq_some_iff.1 HX.out).1).trans HX.out); clear hb_ HB HX z0 z1 z2 z3 z4; have HB := HB_; have HX := HX_; clear HB_ HX_; have z0 := cells_at HX.out 0 _ rfl; have z1 := cells_at HX.out 1 _ rfl; have z2 := cells_at HX.out 2 _ rfl; have z3 := cells_at HX.out 3 _ rfl; have z4 := cells_at HX.out 4 _ rfl))
          go_ret
          exact ⟨rfl, HB.out⟩
      · have hDb : (D.size : Int) > 2147483647 := by omega
        go_wp2_with (first | (go_at_call 14; refine (laws_zzFits18.calls Ad cd del Af cf fol _ _ _ _ _ (Kd.C_below HCD.out HB.out) hcd (Kd.C_below HCF.out HB.out) hcf HFT.out).mono ?_; rintro _ W_ ⟨rfl, hb_⟩; have HB_ := Aside0.mk (HB.out.trans (hb_.mono HB.out.size)); have HX_ := Aside0.mk ((hb_.block _ (Array.getElem?_eq_some_iff.1 HX.out).1).trans HX.out); clear hb_ HB HX z0 z1 z2 z3 z4; have HB := HB_; have HX := HX_; clear HB_ HX_; have z0 := cells_at HX.out 0 _ rfl; have z1 := cells_at HX.out 1 _ rfl; have z2 := cells_at HX.out 2 _ rfl; have z3 := cells_at HX.out 3 _ rfl; have z4 := cells_at HX.out 4 _ rfl) | (go_at_call 17; refine (parts_calls _ (Utf8Tabs_below HT.out HB.out) (WhiteTab_below HW.out HB.out)).mono ?_; rintro _ W_ ⟨rfl, hb_⟩; have HB_ := Aside0.mk (HB.out.trans (hb_.mono HB.out.size)); have HX_ := Aside0.mk ((hb_.block _ (Array.getElem?_eq_some_iff.1 HX.out).1).trans HX.out); clear hb_ HB HX z0 z1 z2 z3 z4; have HB := HB_; have HX := HX_; clear HB_ HX_; have z0 := cells_at HX.out 0 _ rfl; have z1 := cells_at HX.out 1 _ rfl; have z2 := cells_at HX.out 2 _ rfl; have z3 := cells_at HX.out 3 _ rfl; have z4 := cells_at HX.out 4 _ rfl))
        go_ret
        exact ⟨rfl, HB.out⟩
    · have hfb : (decide (del.length ≤ 2147483647) && decide (fol.length ≤ 2147483647)) = false := by simp [hl2]
      have HFT : Aside0 (laws_zzFits18.f del fol skip dbl most = some false) := ⟨by rw [fits_f, hfb]⟩
      clear hfb
      go_wp2_with (first | (go_at_call 14; refine (laws_zzFits18.calls Ad cd del Af cf fol _ _ _ _ _ (Kd.C_below HCD.out HB.out) hcd (Kd.C_below HCF.out HB.out) hcf HFT.out).mono ?_; rintro _ W_ ⟨rfl, hb_⟩; have HB_ := Aside0.mk (HB.out.trans (hb_.mono HB.out.size)); have HX_ := Aside0.mk ((hb_.block _ (Array.getElem?_eq_some_iff.1 HX.out).1).trans HX.out); clear hb_ HB HX z0 z1 z2 z3 z4; have HB := HB_; have HX := HX_; clear HB_ HX_; have z0 := cells_at HX.out 0 _ rfl; have z1 := cells_at HX.out 1 _ rfl; have z2 := cells_at HX.out 2 _ rfl; have z3 := cells_at HX.out 3 _ rfl; have z4 := cells_at HX.out 4 _ rfl) | (go_at_call 17; refine (parts_calls _ (Utf8Tabs_below HT.out HB.out) (WhiteTab_below HW.out HB.out)).mono ?_; rintro _ W_ ⟨rfl, hb_⟩; have HB_ := Aside0.mk (HB.out.trans (hb_.mono HB.out.size)); have HX_ := Aside0.mk ((hb_.block _ (Array.getElem?_eq_some_iff.1 HX.out).1).trans HX.out); clear hb_ HB HX z0 z1 z2 z3 z4; have HB := HB_; have HX := HX_; clear HB_ HX_; have z0 := cells_at HX.out 0 _ rfl; have z1 := cells_at HX.out 1 _ rfl; have z2 := cells_at HX.out 2 _ rfl; have z3 := cells_at HX.out 3 _ rfl; have z4 := cells_at HX.out 4 _ rfl))
      go_ret
      exact ⟨rfl, HB.out⟩
  · have hfb : (decide (del.length ≤ 2147483647) && decide (fol.length ≤ 2147483647)) = false := by simp [hl1]
    have HFT : Aside0 (laws_zzFits18.f del fol skip dbl most = some false) := ⟨by rw [fits_f, hfb]⟩
    clear hfb
    go_wp2_with (first | (go_at_call 14; refine (laws_zzFits18.calls Ad cd del Af cf fol _ _ _ _ _ (Kd.C_below HCD.out HB.out) hcd (Kd.C_below HCF.out HB.out) hcf HFT.out).mono ?_; rintro _ W_ ⟨rfl, hb_⟩; have HB_ := Aside0.mk (HB.out.trans (hb_.mono HB.out.size)); have HX_ := Aside0.mk ((hb_.block _ (Array.getElem?_eq_some_iff.1 HX.out).1).trans HX.out); clear hb_ HB HX z0 z1 z2 z3 z4; have HB := HB_; have HX := HX_; clear HB_ HX_; have z0 := cells_at HX.out 0 _ rfl; have z1 := cells_at HX.out 1 _ rfl; have z2 := cells_at HX.out 2 _ rfl; have z3 := cells_at HX.out 3 _ rfl; have z4 := cells_at HX.out 4 _ rfl) | (go_at_call 17; refine (parts_calls _ (Utf8Tabs_below HT.out HB.out) (WhiteTab_below HW.out HB.out)).mono ?_; rintro _ W_ ⟨rfl, hb_⟩; have HB_ := Aside0.mk (HB.out.trans (hb_.mono HB.out.size)); have HX_ := Aside0.mk ((hb_.block _ (Array.getElem?_eq_some_iff.1 HX.out).1).trans HX.out); clear hb_ HB HX z0 z1 z2 z3 z4; have HB := HB_; have HX := HX_; clear HB_ HX_; have z0 := cells_at HX.out 0 _ rfl; have z1 := cells_at HX.out 1 _ rfl; have z2 := cells_at HX.out 2 _ rfl; have z3 := cells_at HX.out 3 _ rfl; have z4 := cells_at HX.out 4 _ rfl))
    go_ret
    exact ⟨rfl, HB.out⟩
theorem walk_exact (Aa0_0 : Option Addr) (ca0_0 : Nat) (a0_0 : (List Int)) (Aa0_1 : Option Addr) (ca0_1 : Nat) (a0_1 : (List Int)) (a0_2 : Bool) (a0_3 : Bool) (a0_4 : Int) (A1 : Option Addr) (c1 : Nat) (a1 : (List Int)) (a2 : Bool) (w : World) (hL : laidMet Tryd.prog Rows.fnExactScanRow.laid w) (hra0_0 : Kd.C (Kd.int .i32) w Aa0_0 a0_0.length a0_0) (hca0_0 : a0_0.length ≤ ca0_0) (hga0_0 : a0_0.length * 4 ≤ 140737488351232 ∧ ∀ y0 ∈ a0_0, (Lit.int .i32 y0).wf = true) (hra0_1 : Kd.C (Kd.int .i32) w Aa0_1 a0_1.length a0_1) (hca0_1 : a0_1.length ≤ ca0_1) (hga0_1 : a0_1.length * 4 ≤ 140737488351232 ∧ ∀ y0 ∈ a0_1, (Lit.int .i32 y0).wf = true) (hga0_4 : (Lit.int .i64 a0_4).wf = true) (hr1 : Kd.C (Kd.int .u8) w A1 a1.length a1) (hc1 : a1.length ≤ c1) (hg1 : a1.length * 1 ≤ 140737488351232 ∧ ∀ y0 ∈ a1, (Lit.int .u8 y0).wf = true)  :
    Calls Tryd.prog 7 #[.agg #[.slice Aa0_0 a0_0.length ca0_0, .slice Aa0_1 a0_1.length ca0_1, .bool a0_2, .bool a0_3, .int .i64 a0_4], .slice A1 a1.length c1, .bool a2] w fun e w' => e = .returned (.bool true) ∧ Below w.heap.size w w' := by
  have hT := Tabs.met hL (by rw [← Tabs.d3]; simp [Rows.fnExactScanRow]) (by rw [← Tabs.d4]; simp [Rows.fnExactScanRow]) (by rw [← Tabs.d6]; simp [Rows.fnExactScanRow])
  have hb : ∀ x ∈ a1, 0 ≤ x ∧ x ≤ 255 := fun x hx => by have h := hg1.2 x hx; simp only [Lit.wf, Bool.and_eq_true, decide_eq_true_eq] at h; exact h
  have hs := strOfNums_size a1
  have hc := exact_calls a2 w ⟨a0_0, a0_1, a0_2, a0_3, a0_4⟩ Aa0_0 Aa0_1 ca0_0 ca0_1 (strOfNums a1) A1 c1 hra0_0 hca0_0 hra0_1 hca0_1 (fun x hx => by have h := hga0_0.2 x hx; simp only [Lit.wf, Bool.and_eq_true, decide_eq_true_eq] at h; exact h) (fun x hx => by have h := hga0_1.2 x hx; simp only [Lit.wf, Bool.and_eq_true, decide_eq_true_eq] at h; exact h) (by rw [seg_str a1 hb, hs]; exact hr1) (by rw [hs]; exact hc1) (by rw [hs]; have := hg1.1; omega) hT.1 hT.2
  rw [hs] at hc
  exact hc
end Go.Proofs.YtckdpckdabfkbabDoor.Scan
