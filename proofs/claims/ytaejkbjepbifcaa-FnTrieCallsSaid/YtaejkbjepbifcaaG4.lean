/- The walks over tries and what they compute: part 4 of several, put together by a program. -/
import Derived.Test.YtaejkbjepbifcaaG3
namespace Go.Proofs.Ytaejkbjepbifcaa.Da
open Go.RowKit Go.Proofs.YtaejkbjepbifcaaW.PrintWords Go.Proofs.Ytaejkbjepbifcaa.Plain
set_option linter.unusedVariables false
set_option linter.unusedSimpArgs false
abbrev ta : ByteArray := { data := #[97] }
abbrev tab : ByteArray := { data := #[97, 98] }
def La : Keys := keysAll [ta, tab] [3, 5]
theorem cln_a : Cln ta := by intro c hc; have : c = 97 := by simpa [bs, ta] using hc
                             subst this; unfold Okc; omega
theorem cln_ab : Cln tab := by
  intro c hc
  have : c = 97 ∨ c = 98 := by simpa [bs, tab] using hc
  unfold Okc
  omega
theorem two_ord : Ord [ta, tab] true := by
  refine ⟨?_, ?_, ?_, ?_, by simp⟩
  · intro t ht
    simp only [List.mem_cons, List.not_mem_nil, or_false] at ht
    rcases ht with rfl | rfl
    · exact cln_a
    · exact cln_ab
  · intro t ht
    simp only [List.mem_cons, List.not_mem_nil, or_false] at ht
    rcases ht with rfl | rfl <;> rw [Lib.toList_data] <;> decide
  · intro i hi
    obtain rfl : i = 0 := by simp at hi; omega
    rw [Lib.toList_data, Lib.toList_data]; decide
  · intro _ i hi
    obtain rfl : i = 0 := by simp at hi; omega
    rw [Lib.toList_data, Lib.toList_data]; decide
theorem two_ok : KeysOk [ta, tab] [3, 5] := keys_ok (by decide) two_ord rfl (by decide)
theorem two_fnd : fnd La tab = (5, true) := by decide
theorem two_hits : hitsS La (bs tab) (bs tab).length = [⟨3, 1⟩, ⟨5, 2⟩] := by rfl
theorem new1 {α : Type} {enc : α → Value} {h1 : ∀ x, (enc x).oneCell' = true} (w : World) (b : Nat) (hb : b = w.heap.size) (xs : List α) (e : TypeId) (cs : Array Value) (hcs : cs = (xs.map enc).toArray) (hm : xs.length ≤ 9223372036854775807) :
    (Kd.scalar enc h1).C (w.alloc (.cells cs e (0, 0))) (some ⟨b, 0, none⟩) xs.length xs := by
  subst hb
  exact Own.C_alloc_new w xs e (0, 0) cs hcs hm
/-- A new row of two hits. -/
theorem new_hits (w : World) (b : Nat) (hb : b = w.heap.size) (p q : PB.S39) : Kd.C PB.k39 (w.alloc (.cells #[.int .i64 p.f0, .int .i64 p.f1, .int .i64 q.f0, .int .i64 q.f1] 39 (0, 0))) (some ⟨b, 0, none⟩) 2 [p, q] := by
  subst hb
  refine ⟨rfl, by simp, fun _ => ⟨_, rfl, fun j x hj => ?_⟩⟩
  have e : ∀ i, (⟨w.heap.size, 0, none⟩ : Addr).add (j * PB.k39.sz + i) = ⟨w.heap.size, j * 2 + i, none⟩ := fun i => by
    show (⟨w.heap.size, 0, none⟩ : Addr).add (j * 2 + i) = _
    rw [add_at0, Nat.zero_add]
  refine ⟨[.int .i64 x.f0, .int .i64 x.f1], rfl, PB.k39_mk _ _, fun i u hu => ?_⟩
  rw [e, Own.alloc_cell]
  have hi : i < 2 := by have := (List.getElem?_eq_some_iff.1 hu).1; simpa using this
  have hj2 : j < 2 := by have := (List.getElem?_eq_some_iff.1 hj).1; simpa using this
  have : j = 0 ∨ j = 1 := by omega
  have : i = 0 ∨ i = 1 := by omega
  rcases ‹j = 0 ∨ j = 1› with rfl | rfl <;> rcases ‹i = 0 ∨ i = 1› with rfl | rfl <;> simp at hj hu <;> subst hj <;> subst hu <;> rfl
theorem row_reads {α : Type} {d : Kd α} {e : Nat} {w : World} {base : Nat} {ok : Nat → Prop} {A : Option Addr} {n c : Nat} {xs : List α} (h : Kd.R d e w base ok (.slice A n c) xs) : xs.length ≤ c ∧ Kd.C d w A xs.length xs := by
  obtain ⟨A', c', e1, l1, g1⟩ := Kd.R_reads h
  cases e1
  exact ⟨l1, g1⟩
set_option maxHeartbeats 16000000 in
set_option maxRecDepth 100000 in
theorem builds_calls (W : World) : Calls Try.prog 14 #[] W fun e w' => e = .returned (.bool true) ∧ Below W.heap.size W w' := by
  obtain ⟨kk, hk⟩ := sorted_ev [ta, tab] (by simp) (by simp) two_ord.up
  obtain ⟨ks, hks⟩ := (same_ev [⟨3, 1⟩, ⟨5, 2⟩] (by simp)).rounds
  have HK := Aside0.mk hk
  have HKS := Aside0.mk hks
  clear hk hks
  have HT : Aside0 (∀ (w : World) (b0 b1 b2 : Nat), Kd.C Kd.string w (some ⟨b0, 0, none⟩) 2 [ta, tab] → Kd.C (Kd.int .i64) w (some ⟨b1, 0, none⟩) 2 [3, 5] → Kd.C Kd.string w (some ⟨b2, 0, none⟩) 1 [tab] →
      Calls Try.prog 17 #[.slice (some ⟨b0, 0, none⟩) 2 2, .slice (some ⟨b1, 0, none⟩) 2 2, .slice (some ⟨b2, 0, none⟩) 1 1] w fun e w' => ∃ g c A4 c4 A5 c5, e = .returned (.tuple #[.slice (some ⟨g, 0, none⟩) 1 c, .int .i64 0]) ∧ (w'.cell? ⟨g, 0, none⟩ = some (.int .i64 5) ∧ w'.cell? ⟨g, 1, none⟩ = some (.bool true) ∧ w'.cell? ⟨g, 4, none⟩ = some (.slice A4 2 c4) ∧ w'.cell? ⟨g, 2, none⟩ = some (.int .i64 (lng La tab).1) ∧ w'.cell? ⟨g, 3, none⟩ = some (.bool (lng La tab).2) ∧ w'.cell? ⟨g, 5, none⟩ = some (.slice A5 2 c5)) ∧ Aside0 (Kd.R PB.k39 39 w' w.heap.size (fun _ => True) (.slice A4 2 c4) [⟨3, 1⟩, ⟨5, 2⟩]) ∧ Aside0 (Below w.heap.size w w')) := ⟨fun w b0 b1 b2 h0 h1 h2 => by
    refine (trie_calls w (some ⟨b0, 0, none⟩) (some ⟨b1, 0, none⟩) (some ⟨b2, 0, none⟩) 2 2 1 kk [ta, tab] [tab] [3, 5] h0 (by simp) h1 (by simp) h2 HK.out two_ok ⟨by simp, fun t ht => by rw [List.mem_singleton.1 ht]; exact ⟨cln_ab, by decide⟩⟩).mono ?_
    rintro e w' ⟨ov, rfl, hR, hB⟩
    obtain ⟨g, c, rfl, hg0, hg, _, _⟩ := own_head hR (by simp)
    obtain ⟨A4, c4, A5, c5, h0, h1, h2, h3, h4, h5, g4, g5⟩ := ans_at hR 0 (by simp) (ans La tab) rfl
    simp only [Nat.zero_mul, Nat.zero_add] at h0 h1 h2 h3 h4 h5
    have e1 : (ans La tab).f2 = [⟨3, 1⟩, ⟨5, 2⟩] := two_hits
    have e2 : (ans La tab).f3 = [⟨3, 1⟩, ⟨5, 2⟩] := two_hits
    rw [e1] at h4 g4
    rw [e2] at h5
    exact ⟨g, c, A4, c4, A5, c5, rfl, ⟨h0.trans (by rw [show (ans La tab).f0.f0 = (fnd La tab).1 from rfl, two_fnd]), h1.trans (by rw [show (ans La tab).f0.f1 = (fnd La tab).2 from rfl, two_fnd]), h4, h2, h3, h5⟩, ⟨g4⟩, ⟨hB⟩⟩⟩
  go_enter Try.func14, Try.ntmps14
  go_upto_region 2 with (go_at_call 17; refine (HT.out _ _ _ _ (Kd.C_below (new1 _ _ rfl [ta, tab] _ _ rfl (by simp)) (below_alloc (below_alloc (Below.refl _ _) _) _)) (Kd.C_below (new1 _ _ (Own.size_alloc _ _).symm [3, 5] _ _ rfl (by simp)) (below_alloc (Below.refl _ _) _)) (new1 _ _ ((congrArg (· + 1) (Own.size_alloc _ _)).symm.trans (Own.size_alloc _ _).symm) [tab] _ _ rfl (by simp))).mono ?_; rintro e_ w2 ⟨g, c, A4, c4, A5, c5, rfl, ⟨k0, k1, k4, k2, k3, k5⟩, HC, HB⟩)
  obtain ⟨hl4, hC4⟩ := row_reads HC.out
  have HL4 := Aside0.mk hl4
  have HC4 := Aside0.mk hC4
  have HBW : Aside0 (Below W.heap.size W w2) := ⟨below_step (below_alloc (below_alloc (below_alloc (Below.refl _ _) _) _) _) HB.out⟩
  clear hl4 hC4 HC HB HT
  go_wp2_with (go_at_call 16; refine (PB.impl_Hit.calls ks A4 c4 [⟨3, 1⟩, ⟨5, 2⟩] _ 2 [⟨3, 1⟩, ⟨5, 2⟩] true _ (Kd.C_below HC4.out (below_alloc (Below.refl _ _) _)) HL4.out (new_hits _ _ rfl ⟨3, 1⟩ ⟨5, 2⟩) (Nat.le_refl _) HKS.out).mono ?_; rintro e_ w3 ⟨rfl, ⟨q3, rfl⟩⟩)
  go_ret
  exact ⟨rfl, pw_below_drewN (below_alloc HBW.out _) _⟩
end Go.Proofs.Ytaejkbjepbifcaa.Da
namespace Go.Proofs.Ytaejkbjepbifcaa.Da
open Go.RowKit Go.Proofs.YtaejkbjepbifcaaW.PrintWords Go.Proofs.Ytaejkbjepbifcaa.Plain
set_option linter.unusedVariables false
set_option linter.unusedSimpArgs false
theorem new_two (w : World) (g : Nat) (hg : g = w.heap.size) (A0 A1 : Option Addr) (c0 c1 n0 n1 : Nat) (a b : List ByteArray) (h0 : n0 = a.length) (h1 : n1 = b.length) (ha : Kd.C Kd.string w A0 a.length a) (hca : a.length ≤ c0) (hb : Kd.C Kd.string w A1 b.length b) (hcb : b.length ≤ c1) :
    Kd.C (Kd.slice 9 Kd.string) (w.alloc (.cells #[.slice A0 n0 c0, .slice A1 n1 c1] 22 (0, 0))) (some ⟨g, 0, none⟩) [a, b].length [a, b] := by
  subst h0
  subst h1
  refine Own.C_new1 (d := Kd.slice 9 Kd.string) rfl w g hg 22 (0, 0) [.slice A0 a.length c0, .slice A1 b.length c1] [a, b] rfl (by simp) (fun j p u hp hu => ?_)
  have hb2 := below_alloc (Below.refl w.heap.size w) (.cells #[.slice A0 a.length c0, .slice A1 b.length c1] 22 (0, 0))
  have hj : j < 2 := by have := (List.getElem?_eq_some_iff.1 hp).1; simpa using this
  rcases (show j = 0 ∨ j = 1 by omega) with rfl | rfl <;> simp at hp hu <;> subst hp <;> subst hu
  · exact ⟨A0, c0, rfl, hca, Kd.C_below ha hb2⟩
  · exact ⟨A1, c1, rfl, hcb, Kd.C_below hb hb2⟩
theorem new_one (w : World) (g : Nat) (hg : g = w.heap.size) (A0 : Option Addr) (c0 n0 : Nat) (a : List ByteArray) (h0 : n0 = a.length) (ha : Kd.C Kd.string w A0 a.length a) (hca : a.length ≤ c0) :
    Kd.C (Kd.slice 9 Kd.string) (w.alloc (.cells #[.slice A0 n0 c0] 22 (0, 0))) (some ⟨g, 0, none⟩) [a].length [a] := by
  subst h0
  refine Own.C_new1 (d := Kd.slice 9 Kd.string) rfl w g hg 22 (0, 0) [.slice A0 a.length c0] [a] rfl (by simp) (fun j p u hp hu => ?_)
  have hb2 := below_alloc (Below.refl w.heap.size w) (.cells #[.slice A0 a.length c0] 22 (0, 0))
  have hj : j < 1 := by have := (List.getElem?_eq_some_iff.1 hp).1; simpa using this
  obtain rfl : j = 0 := by omega
  simp at hp hu
  subst hp
  subst hu
  exact ⟨A0, c0, rfl, hca, Kd.C_below ha hb2⟩
theorem size_at (w : World) (o : Obj) (n : Nat) (h : n = w.heap.size) : n + 1 = (w.alloc o).heap.size := by rw [h]; exact (Own.size_alloc _ _).symm
end Go.Proofs.Ytaejkbjepbifcaa.Da
