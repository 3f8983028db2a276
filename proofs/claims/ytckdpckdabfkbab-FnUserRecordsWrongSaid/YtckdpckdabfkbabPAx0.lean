-- Written by a program of ours out of the kit's print program.
import Derived.Test.YtckdpckdabfkbabProg
import Derived.Below
import Derived.Deep.Draws
import Derived.Deep.AppendLies
import Derived.Maps.AppendAt
import Derived.OwnWalk
import Derived.Laws.BytesArg
import Derived.Laws.MakeOwn
import Derived.Laws.OwnMore
import Derived.Deep.OwnRows
import Derived.Tactics
import Derived.Lib.ConvBytes
import Derived.Laws.Slices
import Derived.WalkKit
import Derived.KernelRfl
import Derived.RowKit3
import Derived.Deep.LoopGhost
import Derived.Deep.QuietTactic
import Derived.BigQuiet
import Derived.WideLaws
import Derived.Deep.DeepCutAuto
import Derived.Deep.CutBlock
import Derived.Deep.RegionHeld3
import Derived.Laws.Rows
import Derived.Lib.AppendStr
import Derived.ArgAppend
import Derived.Laws.IdiomCopy
import Derived.OrdersHeld
import Derived.Laws.BitsLemmas
import Derived.RowKit
import Derived.WalkSpells
import Derived.Test.YtckdpckdabfkbabOwn
import Derived.Test.YtckdpckdabfkbabWWords
import Derived.Test.YtckdpckdabfkbabWLast
import Derived.Test.YtckdpckdabfkbabWTab
import Derived.Test.YtckdpckdabfkbabWFour
import Derived.Test.YtckdpckdabfkbabWQPut
import Derived.Test.YtckdpckdabfkbabWApart
import Derived.Test.YtckdpckdabfkbabWArr
import Derived.Test.YtckdpckdabfkbabWZeros
import Derived.Test.YtckdpckdabfkbabWFoot
import Derived.Test.YtckdpckdabfkbabWKept
import Derived.Test.YtckdpckdabfkbabWShare
import Derived.Test.YtckdpckdabfkbabWN
import Derived.Test.YtckdpckdabfkbabWFootNe
import Derived.Test.YtckdpckdabfkbabWAt
import Derived.Test.YtckdpckdabfkbabWEqStruct
import Derived.Test.YtckdpckdabfkbabWRepsOne
import Derived.Test.YtckdpckdabfkbabWInv
import Derived.Test.YtckdpckdabfkbabWInvWords
import Derived.Test.YtckdpckdabfkbabWGuard
import Derived.Test.YtckdpckdabfkbabWNEv
import Derived.Test.YtckdpckdabfkbabWMore
namespace Go.Proofs.Ytckdpckdabfkbab.PA
open Go.RowKit Go.Proofs.YtckdpckdabfkbabW.PrintWords Go.Proofs.YtckdpckdabfkbabW.PrintLast Go.Proofs.YtckdpckdabfkbabW.PrintMore
attribute [local go_sem] max2_int min2_int max_two min_two max_three min_three max_four min_four   -- for this text's walks alone
set_option linter.unusedVariables false
set_option linter.unusedSimpArgs false



def errW : Option Int → Value
  | none => .nilIface
  | some c => .iface 0 (.int .i64 c)
theorem errW_none : errW none = .nilIface := rfl
theorem errW_some (c : Int) : errW (some c) = .iface 0 (.int .i64 c) := rfl

theorem info9 : (Try.prog.info? 9).map (fun i => (i.zero, i.size, i.bytes)) = some (some (.string ⟨#[]⟩), 1, 16) := by kernel_rfl
theorem info24 : (Try.prog.info? 24).map (fun i => (i.zero, i.size, i.bytes)) = some (some (.agg #[(.string ⟨#[]⟩), (.slice none 0 0), (.slice none 0 0), (.string ⟨#[]⟩)]), 4, 80) := by kernel_rfl
theorem info44 : (Try.prog.info? 44).map (fun i => (i.zero, i.size, i.bytes)) = some (some (.agg #[(.string ⟨#[]⟩), (.slice none 0 0), (.slice none 0 0), (.string ⟨#[]⟩)]), 4, 80) := by kernel_rfl
-- the values' own types
def rd_L1 (xs : List (List ByteArray)) (i : Int) : (List ByteArray) := xs.getD i.toNat ([] : List ByteArray)
theorem at_L1 {w : World} {A : Option Addr} {n : Nat} {xs : List (List ByteArray)} (h : Kd.C (Kd.slice 9 Kd.string) w A n xs) (i : Int) (h0 : 0 ≤ i) (h1 : i < n) : ∃ ad A0 c0, A = some ad ∧ w.cell? (ad.add i.toNat) = some (.slice A0 (rd_L1 xs i).length c0) ∧ (rd_L1 xs i).length ≤ c0 ∧ Kd.string.C w A0 (rd_L1 xs i).length (rd_L1 xs i) := by
  obtain ⟨ad, c, e, _, hK, hc0⟩ := Kd.C_get h ([] : List ByteArray) i h0 h1
  have hc : ∀ j u, c[j]? = some u → w.cell? (ad.add (i.toNat * 1 + j)) = some u := hc0
  obtain ⟨A0, c0, rfl, l0, g0⟩ := hK
  exact ⟨ad, A0, c0, e, by have hq := hc 0 _ rfl; rwa [Nat.mul_one, Nat.add_zero] at hq, l0, g0⟩

/-! #### struct type 24 -/
structure S24 where
  f0 : ByteArray
  f1 : (List ByteArray)
  f2 : (List ByteArray)
  f3 : ByteArray
def z24 : S24 := ⟨(⟨#[]⟩ : ByteArray), ([] : List ByteArray), ([] : List ByteArray), (⟨#[]⟩ : ByteArray)⟩
def k24 : Kd S24 := Kd.iso (Kd.pair Kd.string (Kd.pair (Kd.slice 9 Kd.string) (Kd.pair (Kd.slice 9 Kd.string) Kd.string))) (fun x : S24 => (x.f0, x.f1, x.f2, x.f3))
theorem k24_open {w : World} {x : S24} {cs : List Value} (h : k24.K w x cs) : ∃ A1 c1 A2 c2, cs = [.string x.f0, .slice A1 x.f1.length c1, .slice A2 x.f2.length c2, .string x.f3] ∧ x.f1.length ≤ c1 ∧ Kd.string.C w A1 x.f1.length x.f1 ∧ x.f2.length ≤ c2 ∧ Kd.string.C w A2 x.f2.length x.f2 := by
  obtain ⟨_, _, rfl, rfl, ⟨_, _, rfl, ⟨A1, c1, rfl, l1, g1⟩, ⟨_, _, rfl, ⟨A2, c2, rfl, l2, g2⟩, rfl⟩⟩⟩ := h
  exact ⟨A1, c1, A2, c2, rfl, l1, g1, l2, g2⟩
theorem k24_openM {w : World} {base : Nat} {ok : Nat → Prop} {x : S24} {cs : List Value} (h : k24.M w base ok x cs) : ∃ v1 v2, cs = [.string x.f0, v1, v2, .string x.f3] ∧ Kd.string.R 9 w base ok v1 x.f1 ∧ Kd.string.R 9 w base ok v2 x.f2 := by
  obtain ⟨_, _, rfl, rfl, ⟨_, _, rfl, ⟨v1, rfl, g1⟩, ⟨_, _, rfl, ⟨v2, rfl, g2⟩, rfl⟩⟩⟩ := h
  exact ⟨v1, v2, rfl, g1, g2⟩
theorem k24_mk (w : World) (x : S24) {A1 : Option Addr} {c1 : Nat} (l1 : x.f1.length ≤ c1) (g1 : Kd.string.C w A1 x.f1.length x.f1) {A2 : Option Addr} {c2 : Nat} (l2 : x.f2.length ≤ c2) (g2 : Kd.string.C w A2 x.f2.length x.f2) : k24.K w x [.string x.f0, .slice A1 x.f1.length c1, .slice A2 x.f2.length c2, .string x.f3] := ⟨[.string x.f0], [.slice A1 x.f1.length c1, .slice A2 x.f2.length c2, .string x.f3], rfl, rfl, ⟨[.slice A1 x.f1.length c1], [.slice A2 x.f2.length c2, .string x.f3], rfl, ⟨A1, c1, rfl, l1, g1⟩, ⟨[.slice A2 x.f2.length c2], [.string x.f3], rfl, ⟨A2, c2, rfl, l2, g2⟩, rfl⟩⟩⟩
theorem k24_mkM (w : World) (base : Nat) (ok : Nat → Prop) (x : S24) {v1 : Value} (g1 : Kd.string.R 9 w base ok v1 x.f1) {v2 : Value} (g2 : Kd.string.R 9 w base ok v2 x.f2) : k24.M w base ok x [.string x.f0, v1, v2, .string x.f3] := ⟨[.string x.f0], [v1, v2, .string x.f3], rfl, rfl, ⟨[v1], [v2, .string x.f3], rfl, ⟨v1, rfl, g1⟩, ⟨[v2], [.string x.f3], rfl, ⟨v2, rfl, g2⟩, rfl⟩⟩⟩
theorem k24_openF {W : World} {ok : Nat → Prop} {x : S24} {cs : List Value} (h : Kd.FK k24 W ok x cs) : ∃ A1 c1 A2 c2, cs = [.string x.f0, .slice A1 x.f1.length c1, .slice A2 x.f2.length c2, .string x.f3] ∧ x.f1.length ≤ c1 ∧ Kd.F Kd.string W ok A1 x.f1.length x.f1 ∧ x.f2.length ≤ c2 ∧ Kd.F Kd.string W ok A2 x.f2.length x.f2 := by
  obtain ⟨A1, c1, A2, c2, rfl, l1, _, l2, _⟩ := k24_open (Kd.FK_now h)
  exact ⟨A1, c1, A2, c2, rfl, l1, (fun W' hW => by obtain ⟨A1_, c1_, A2_, c2_, he, l1_, g1_, l2_, g2_⟩ := k24_open (h W' hW); injection (Option.some.inj (show some (Value.slice A1 x.f1.length c1) = some (Value.slice A1_ x.f1.length c1_) from congrArg (fun l => l[1]?) he)) with ha_ _ _; rw [ha_]; exact g1_), l2, (fun W' hW => by obtain ⟨A1_, c1_, A2_, c2_, he, l1_, g1_, l2_, g2_⟩ := k24_open (h W' hW); injection (Option.some.inj (show some (Value.slice A2 x.f2.length c2) = some (Value.slice A2_ x.f2.length c2_) from congrArg (fun l => l[2]?) he)) with ha_ _ _; rw [ha_]; exact g2_)⟩
theorem k24_mkF (W : World) (ok : Nat → Prop) (x : S24) {A1 : Option Addr} {c1 : Nat} (l1 : x.f1.length ≤ c1) (g1 : Kd.F Kd.string W ok A1 x.f1.length x.f1) {A2 : Option Addr} {c2 : Nat} (l2 : x.f2.length ≤ c2) (g2 : Kd.F Kd.string W ok A2 x.f2.length x.f2) : Kd.FK k24 W ok x [.string x.f0, .slice A1 x.f1.length c1, .slice A2 x.f2.length c2, .string x.f3] := fun W2 hW => k24_mk W2 x l1 (g1 W2 hW) l2 (g2 W2 hW)
def rd_T24 (xs : List S24) (i : Int) : S24 := xs.getD i.toNat z24
theorem at_T24 {w : World} {A : Option Addr} {n : Nat} {xs : List S24} (h : Kd.C k24 w A n xs) (i : Int) (h0 : 0 ≤ i) (h1 : i < n) : ∃ ad A1 c1 A2 c2, A = some ad ∧ w.cell? (ad.add (i.toNat * 4)) = some (.string (rd_T24 xs i).f0) ∧ w.cell? ⟨(ad.add (i.toNat * 4)).block, (ad.add (i.toNat * 4)).off + 1, none⟩ = some (.slice A1 (rd_T24 xs i).f1.length c1) ∧ w.cell? ⟨(ad.add (i.toNat * 4)).block, (ad.add (i.toNat * 4)).off + 2, none⟩ = some (.slice A2 (rd_T24 xs i).f2.length c2) ∧ w.cell? ⟨(ad.add (i.toNat * 4)).block, (ad.add (i.toNat * 4)).off + 3, none⟩ = some (.string (rd_T24 xs i).f3) ∧ (rd_T24 xs i).f1.length ≤ c1 ∧ Kd.string.C w A1 (rd_T24 xs i).f1.length (rd_T24 xs i).f1 ∧ (rd_T24 xs i).f2.length ≤ c2 ∧ Kd.string.C w A2 (rd_T24 xs i).f2.length (rd_T24 xs i).f2 := by
  obtain ⟨ad, c, e, _, hK, hc0⟩ := Kd.C_get h z24 i h0 h1
  have hc : ∀ j u, c[j]? = some u → w.cell? (ad.add (i.toNat * 4 + j)) = some u := hc0
  obtain ⟨A1, c1, A2, c2, rfl, l1, g1, l2, g2⟩ := k24_open hK
  exact ⟨ad, A1, c1, A2, c2, e, hc 0 _ rfl, by rw [← add_field _ _ 1 (by omega)]; exact hc 1 _ rfl, by rw [← add_field _ _ 2 (by omega)]; exact hc 2 _ rfl, by rw [← add_field _ _ 3 (by omega)]; exact hc 3 _ rfl, l1, g1, l2, g2⟩

/-! #### struct type 44 -/
structure S44 where
  f0 : ByteArray
  f1 : (List ByteArray)
  f2 : (List ByteArray)
  f3 : ByteArray
def z44 : S44 := ⟨(⟨#[]⟩ : ByteArray), ([] : List ByteArray), ([] : List ByteArray), (⟨#[]⟩ : ByteArray)⟩
def k44 : Kd S44 := Kd.iso (Kd.pair Kd.string (Kd.pair (Kd.slice 9 Kd.string) (Kd.pair (Kd.slice 9 Kd.string) Kd.string))) (fun x : S44 => (x.f0, x.f1, x.f2, x.f3))
theorem k44_open {w : World} {x : S44} {cs : List Value} (h : k44.K w x cs) : ∃ A1 c1 A2 c2, cs = [.string x.f0, .slice A1 x.f1.length c1, .slice A2 x.f2.length c2, .string x.f3] ∧ x.f1.length ≤ c1 ∧ Kd.string.C w A1 x.f1.length x.f1 ∧ x.f2.length ≤ c2 ∧ Kd.string.C w A2 x.f2.length x.f2 := by
  obtain ⟨_, _, rfl, rfl, ⟨_, _, rfl, ⟨A1, c1, rfl, l1, g1⟩, ⟨_, _, rfl, ⟨A2, c2, rfl, l2, g2⟩, rfl⟩⟩⟩ := h
  exact ⟨A1, c1, A2, c2, rfl, l1, g1, l2, g2⟩
theorem k44_openM {w : World} {base : Nat} {ok : Nat → Prop} {x : S44} {cs : List Value} (h : k44.M w base ok x cs) : ∃ v1 v2, cs = [.string x.f0, v1, v2, .string x.f3] ∧ Kd.string.R 9 w base ok v1 x.f1 ∧ Kd.string.R 9 w base ok v2 x.f2 := by
  obtain ⟨_, _, rfl, rfl, ⟨_, _, rfl, ⟨v1, rfl, g1⟩, ⟨_, _, rfl, ⟨v2, rfl, g2⟩, rfl⟩⟩⟩ := h
  exact ⟨v1, v2, rfl, g1, g2⟩
theorem k44_mk (w : World) (x : S44) {A1 : Option Addr} {c1 : Nat} (l1 : x.f1.length ≤ c1) (g1 : Kd.string.C w A1 x.f1.length x.f1) {A2 : Option Addr} {c2 : Nat} (l2 : x.f2.length ≤ c2) (g2 : Kd.string.C w A2 x.f2.length x.f2) : k44.K w x [.string x.f0, .slice A1 x.f1.length c1, .slice A2 x.f2.length c2, .string x.f3] := ⟨[.string x.f0], [.slice A1 x.f1.length c1, .slice A2 x.f2.length c2, .string x.f3], rfl, rfl, ⟨[.slice A1 x.f1.length c1], [.slice A2 x.f2.length c2, .string x.f3], rfl, ⟨A1, c1, rfl, l1, g1⟩, ⟨[.slice A2 x.f2.length c2], [.string x.f3], rfl, ⟨A2, c2, rfl, l2, g2⟩, rfl⟩⟩⟩
theorem k44_mkM (w : World) (base : Nat) (ok : Nat → Prop) (x : S44) {v1 : Value} (g1 : Kd.string.R 9 w base ok v1 x.f1) {v2 : Value} (g2 : Kd.string.R 9 w base ok v2 x.f2) : k44.M w base ok x [.string x.f0, v1, v2, .string x.f3] := ⟨[.string x.f0], [v1, v2, .string x.f3], rfl, rfl, ⟨[v1], [v2, .string x.f3], rfl, ⟨v1, rfl, g1⟩, ⟨[v2], [.string x.f3], rfl, ⟨v2, rfl, g2⟩, rfl⟩⟩⟩
theorem k44_openF {W : World} {ok : Nat → Prop} {x : S44} {cs : List Value} (h : Kd.FK k44 W ok x cs) : ∃ A1 c1 A2 c2, cs = [.string x.f0, .slice A1 x.f1.length c1, .slice A2 x.f2.length c2, .string x.f3] ∧ x.f1.length ≤ c1 ∧ Kd.F Kd.string W ok A1 x.f1.length x.f1 ∧ x.f2.length ≤ c2 ∧ Kd.F Kd.string W ok A2 x.f2.length x.f2 := by
  obtain ⟨A1, c1, A2, c2, rfl, l1, _, l2, _⟩ := k44_open (Kd.FK_now h)
  exact ⟨A1, c1, A2, c2, rfl, l1, (fun W' hW => by obtain ⟨A1_, c1_, A2_, c2_, he, l1_, g1_, l2_, g2_⟩ := k44_open (h W' hW); injection (Option.some.inj (show some (Value.slice A1 x.f1.length c1) = some (Value.slice A1_ x.f1.length c1_) from congrArg (fun l => l[1]?) he)) with ha_ _ _; rw [ha_]; exact g1_), l2, (fun W' hW => by obtain ⟨A1_, c1_, A2_, c2_, he, l1_, g1_, l2_, g2_⟩ := k44_open (h W' hW); injection (Option.some.inj (show some (Value.slice A2 x.f2.length c2) = some (Value.slice A2_ x.f2.length c2_) from congrArg (fun l => l[2]?) he)) with ha_ _ _; rw [ha_]; exact g2_)⟩
theorem k44_mkF (W : World) (ok : Nat → Prop) (x : S44) {A1 : Option Addr} {c1 : Nat} (l1 : x.f1.length ≤ c1) (g1 : Kd.F Kd.string W ok A1 x.f1.length x.f1) {A2 : Option Addr} {c2 : Nat} (l2 : x.f2.length ≤ c2) (g2 : Kd.F Kd.string W ok A2 x.f2.length x.f2) : Kd.FK k44 W ok x [.string x.f0, .slice A1 x.f1.length c1, .slice A2 x.f2.length c2, .string x.f3] := fun W2 hW => k44_mk W2 x l1 (g1 W2 hW) l2 (g2 W2 hW)
def rd_T44 (xs : List S44) (i : Int) : S44 := xs.getD i.toNat z44
theorem at_T44 {w : World} {A : Option Addr} {n : Nat} {xs : List S44} (h : Kd.C k44 w A n xs) (i : Int) (h0 : 0 ≤ i) (h1 : i < n) : ∃ ad A1 c1 A2 c2, A = some ad ∧ w.cell? (ad.add (i.toNat * 4)) = some (.string (rd_T44 xs i).f0) ∧ w.cell? ⟨(ad.add (i.toNat * 4)).block, (ad.add (i.toNat * 4)).off + 1, none⟩ = some (.slice A1 (rd_T44 xs i).f1.length c1) ∧ w.cell? ⟨(ad.add (i.toNat * 4)).block, (ad.add (i.toNat * 4)).off + 2, none⟩ = some (.slice A2 (rd_T44 xs i).f2.length c2) ∧ w.cell? ⟨(ad.add (i.toNat * 4)).block, (ad.add (i.toNat * 4)).off + 3, none⟩ = some (.string (rd_T44 xs i).f3) ∧ (rd_T44 xs i).f1.length ≤ c1 ∧ Kd.string.C w A1 (rd_T44 xs i).f1.length (rd_T44 xs i).f1 ∧ (rd_T44 xs i).f2.length ≤ c2 ∧ Kd.string.C w A2 (rd_T44 xs i).f2.length (rd_T44 xs i).f2 := by
  obtain ⟨ad, c, e, _, hK, hc0⟩ := Kd.C_get h z44 i h0 h1
  have hc : ∀ j u, c[j]? = some u → w.cell? (ad.add (i.toNat * 4 + j)) = some u := hc0
  obtain ⟨A1, c1, A2, c2, rfl, l1, g1, l2, g2⟩ := k44_open hK
  exact ⟨ad, A1, c1, A2, c2, e, hc 0 _ rfl, by rw [← add_field _ _ 1 (by omega)]; exact hc 1 _ rfl, by rw [← add_field _ _ 2 (by omega)]; exact hc 2 _ rfl, by rw [← add_field _ _ 3 (by omega)]; exact hc 3 _ rfl, l1, g1, l2, g2⟩

end Go.Proofs.Ytckdpckdabfkbab.PA
