/- What is left of a text without its white space. -/
import Derived.Test.YtckdpckdabfkbabDoorScanP
import Derived.Test.YtckdpckdabfkbabDoorRead
import Derived.Lib.MapLaws
namespace Go.Proofs.YtckdpckdabfkbabDoor.Scan
open Go.RowKit Go.Proofs.YtckdpckdabfkbabDoorW.PrintWords Go.Proofs.YtckdpckdabfkbabDoor.Plain Go.Proofs.YtckdpckdabfkbabDoor.Num
set_option linter.unusedVariables false
set_option linter.unusedSimpArgs false
/-- The bytes of the runes from p to q that are no white space. -/
inductive NW (D : ByteArray) : Nat → Nat → List Int → Prop
  | refl (p : Nat) : NW D p p []
  | space {p q r sz : Nat} {X : List Int} (hp : p < D.size) (hr : rn D p = (r, sz)) (h : Lib.isSpaceZ r = true) (t : NW D (p + sz) q X) : NW D p q X
  | word {p q r sz : Nat} {X : List Int} (hp : p < D.size) (hr : rn D p = (r, sz)) (h : Lib.isSpaceZ r = false) (t : NW D (p + sz) q X) : NW D p q (seg D p sz ++ X)
theorem NW.le {D : ByteArray} {p q : Nat} {X : List Int} (h : NW D p q X) : p ≤ q := by
  induction h with
  | refl => exact Nat.le_refl _
  | space _ _ _ _ ih => omega
  | word _ _ _ _ ih => omega
theorem NW.trans {D : ByteArray} {p q r : Nat} {X Y : List Int} (h : NW D p q X) (k : NW D q r Y) : NW D p r (X ++ Y) := by
  induction h with
  | refl => exact k
  | space hp hr h t ih => exact .space hp hr h (ih k)
  | word hp hr h t ih => rw [List.append_assoc]; exact .word hp hr h (ih k)
theorem rn_pos {D : ByteArray} {p r sz : Nat} (hp : p < D.size) (hr : rn D p = (r, sz)) : 1 ≤ sz ∧ p + sz ≤ D.size := by
  have := rn_size D p hp; rw [hr] at this; exact ⟨this.1, this.2.1⟩
theorem NW.one {D : ByteArray} {p q : Nat} {X Y : List Int} (h : NW D p q X) (k : NW D p q Y) : X = Y := by
  induction h generalizing Y with
  | refl p =>
    cases k with
    | refl => rfl
    | space hp hr _ t => have := (rn_pos hp hr).1; have := t.le; omega
    | word hp hr _ t => have := (rn_pos hp hr).1; have := t.le; omega
  | @space p q r sz X hp hr h t ih =>
    have h1 := (rn_pos hp hr).1
    have h2 := t.le
    cases k with
    | refl => omega
    | space hp' hr' _ t' => rw [hr] at hr'; cases hr'; exact ih t'
    | word hp' hr' h' t' => rw [hr] at hr'; cases hr'; rw [h] at h'; cases h'
  | @word p q r sz X hp hr h t ih =>
    have h1 := (rn_pos hp hr).1
    have h2 := t.le
    cases k with
    | refl => omega
    | space hp' hr' h' t' => rw [hr] at hr'; cases hr'; rw [h] at h'; cases h'
    | word hp' hr' _ t' => rw [hr] at hr'; cases hr'; rw [ih t']
theorem rn_rest {D : ByteArray} {n p : Nat} (hp : p < (rest D n).size) : rn (rest D n) p = rn D (n + p) := by
  rw [rest_size] at hp
  unfold rn
  rw [Lib.decode_at, Lib.decode_at, rest_size]
  unfold rest
  rw [ext_get, ext_get, ext_get, ext_get]
  rw [show D.size - n - p = D.size - (n + p) by omega]
  simp only [Nat.add_assoc]
theorem seg_rest (D : ByteArray) (n p k : Nat) : seg (rest D n) p k = seg D (n + p) k := by
  unfold seg
  simp only [by_rest, Nat.add_assoc]
theorem NW.up {D : ByteArray} {n p q : Nat} {X : List Int} (h : NW (rest D n) p q X) : NW D (n + p) (n + q) X := by
  induction h with
  | refl => exact .refl _
  | space hp hr h t ih => rw [rn_rest hp] at hr; rw [rest_size] at hp; exact .space (by omega) hr h (by rw [Nat.add_assoc]; exact ih)
  | word hp hr h t ih => rw [rn_rest hp] at hr; rw [rest_size] at hp; rw [seg_rest]; exact .word (by omega) hr h (by rw [Nat.add_assoc]; exact ih)
theorem inner_nw (S : Sp) (hS : S.skip = true) (D : ByteArray) : ∀ (k p : Nat) (out : List Int) (nn : Bool), ∃ X, (inner S D k p out nn).2 = out ++ X ∧ NW D p (inner S D k p out nn).1 X := by
  intro k
  induction k with
  | zero => intro p out nn; exact ⟨[], by simp [inner], .refl _⟩
  | succ k ih =>
    intro p out nn
    by_cases hp : p < D.size
    · obtain ⟨r, hr⟩ : ∃ r, (rn D p).1 = r := ⟨_, rfl⟩
      obtain ⟨sz, hsz⟩ : ∃ sz, (rn D p).2 = sz := ⟨_, rfl⟩
      have hrs : rn D p = (r, sz) := by rw [← hr, ← hsz]
      cases hsp : S.sp r with
      | true =>
        have hi : Lib.isSpaceZ r = true := by simpa [Sp.sp, hS] using hsp
        cases hlf : S.lf r with
        | true =>
          cases nn with
          | true => rw [inner_1 hp hrs hsp hlf]; exact ⟨[], by simp, .space hp hrs hi (.refl _)⟩
          | false =>
            rw [inner_2 hp hrs hsp hlf]
            obtain ⟨X, h1, h2⟩ := ih (p + sz) out true
            exact ⟨X, h1, .space hp hrs hi h2⟩
        | false =>
          rw [inner_3 hp hrs hsp hlf]
          obtain ⟨X, h1, h2⟩ := ih (p + sz) out nn
          exact ⟨X, h1, .space hp hrs hi h2⟩
      | false =>
        have hi : Lib.isSpaceZ r = false := by simpa [Sp.sp, hS] using hsp
        cases hd : (S.isD r || S.isF r) with
        | true =>
          rw [inner_4 hp hrs hsp hd]
          obtain ⟨X, h1, h2⟩ := ih (p + sz) (out ++ seg D p sz) nn
          exact ⟨seg D p sz ++ X, by rw [h1, List.append_assoc], .word hp hrs hi h2⟩
        | false => rw [inner_5 hp hrs hsp hd]; exact ⟨[], by simp, .refl _⟩
    · rw [inner_end hp]; exact ⟨[], by simp, .refl _⟩
theorem outer_nw (S : Sp) (hS : S.skip = true) (D : ByteArray) : ∀ (k p s : Nat) (out : List Int) (cnt : Nat) (head nn : Bool), p ≤ D.size → (head = true → out = []) → ∃ X, (outer S D true k p s out cnt head nn).out = out ++ X ∧ NW D p (outer S D true k p s out cnt head nn).adv X := by
  intro k
  induction k with
  | zero => intro p s out cnt head nn h1 h2; exact ⟨[], by simp [outer], .refl _⟩
  | succ k ih =>
    intro p s out cnt head nn h1 h2
    by_cases hp : p < D.size
    · obtain ⟨r, hr⟩ : ∃ r, (rn D p).1 = r := ⟨_, rfl⟩
      obtain ⟨sz, hsz⟩ : ∃ sz, (rn D p).2 = sz := ⟨_, rfl⟩
      have hrs : rn D p = (r, sz) := by rw [← hr, ← hsz]
      have q2 := (rn_pos hp hrs).2
      cases hsp : S.sp r with
      | true =>
        have hi : Lib.isSpaceZ r = true := by simpa [Sp.sp, hS] using hsp
        cases head with
        | true =>
          obtain rfl := h2 rfl
          rw [outer_a1 hp hrs hsp]
          obtain ⟨X, g1, g2⟩ := ih (p + sz) (p + sz) [] cnt true nn q2 (fun _ => rfl)
          exact ⟨X, g1, .space hp hrs hi g2⟩
        | false =>
          cases hd : S.isD r with
          | true => rw [outer_a2 hp hrs hsp hd]; exact ⟨[], by simp, .space hp hrs hi (.refl _)⟩
          | false =>
            cases hlf : S.lf r with
            | true =>
              cases nn with
              | true => rw [outer_a3 hp hrs hsp hd hlf]; exact ⟨[], by simp, .space hp hrs hi (.refl _)⟩
              | false =>
                rw [outer_a4 hp hrs hsp hd hlf]
                obtain ⟨X, g1, g2⟩ := ih (p + sz) s out cnt false true q2 (by simp)
                exact ⟨X, g1, .space hp hrs hi g2⟩
            | false =>
              rw [outer_a5 hp hrs hsp hd hlf]
              obtain ⟨X, g1, g2⟩ := ih (p + sz) s out cnt false false q2 (by simp)
              exact ⟨X, g1, .space hp hrs hi g2⟩
      | false =>
        have hi : Lib.isSpaceZ r = false := by simpa [Sp.sp, hS] using hsp
        cases hln : (S.lf r && nn) with
        | true =>
          simp only [Bool.and_eq_true] at hln
          obtain ⟨hlf, rfl⟩ := hln
          rw [outer_b1 hp hrs hsp hlf]
          exact ⟨seg D p sz, rfl, by have := NW.word hp hrs hi (.refl _); rwa [List.append_nil] at this⟩
        | false =>
          cases hv : ((!S.isD r) && decide (((cnt + 1 : Nat) : Int) < S.most)) with
          | true =>
            rw [outer_b2 hp hrs hsp hln hv]
            obtain ⟨X, g1, g2⟩ := ih (p + sz) s (out ++ seg D p sz) (cnt + 1) false (S.lf r || nn) q2 (by simp)
            exact ⟨seg D p sz ++ X, by rw [g1, List.append_assoc], .word hp hrs hi g2⟩
          | false =>
            rw [outer_b3 hp hrs hsp hln hv]
            obtain ⟨X, g1, g2⟩ := inner_nw S hS D k (p + sz) (out ++ seg D p sz) false
            exact ⟨seg D p sz ++ X, by simp only [g1, List.append_assoc], .word hp hrs hi g2⟩
    · rw [outer_end hp, if_pos rfl]
      have : p = D.size := by omega
      exact ⟨[], by simp, by rw [this]; exact .refl _⟩
theorem scan_nw (S : Sp) (hS : S.skip = true) (D : ByteArray) : NW D 0 (scan S D true).adv (scan S D true).out := by
  obtain ⟨X, h1, h2⟩ := outer_nw S hS D (D.size + 1) 0 0 [] 0 true false (Nat.zero_le _) (fun _ => rfl)
  unfold scan
  rw [h1, List.nil_append]; exact h2
theorem nums_append (X Y : List Int) : strOfNums (X ++ Y) = strOfNums X ++ strOfNums Y := by
  apply ByteArray.ext
  simp [strOfNums]
def catL (acc : ByteArray) : List ByteArray → ByteArray
  | [] => acc
  | x :: r => catL (acc ++ x) r
theorem outs_one {S : Sp} {k : Nat} {E : ByteArray} (h : 0 < E.size) : outs S (k + 1) E = strOfNums (scan S E true).out :: outs S k (rest E (scan S E true).adv) := by
  rw [outs, if_neg (by omega)]
theorem outs_none {S : Sp} {k : Nat} {E : ByteArray} (h : ¬ 0 < E.size) : outs S k E = [] := by
  cases k with
  | zero => rfl
  | succ k => rw [outs, if_pos (by omega)]
theorem outs_cat (S : Sp) (hS : S.skip = true) : ∀ (k : Nat) (D acc : ByteArray), D.size < k → ∃ X, NW D 0 D.size X ∧ catL acc (outs S k D) = acc ++ strOfNums X := by
  intro k
  induction k with
  | zero => intro D acc h; omega
  | succ k ih =>
    intro D acc h
    by_cases h0 : 0 < D.size
    · rw [outs_one h0, catL]
      have hok := scan_ok S D true
      have ht := hok.f rfl
      have h1 := hok.l ht h0
      have h2 := hok.a
      obtain ⟨X, g1, g2⟩ := ih (rest D (scan S D true).adv) (acc ++ strOfNums (scan S D true).out) (by rw [rest_size]; omega)
      have g3 := g1.up
      rw [rest_size, Nat.add_zero, show (scan S D true).adv + (D.size - (scan S D true).adv) = D.size by omega] at g3
      exact ⟨_, (scan_nw S hS D).trans g3, by rw [g2, nums_append, ByteArray.append_assoc]⟩
    · rw [outs_none h0, catL]
      have : D.size = 0 := by omega
      exact ⟨[], by rw [this]; exact .refl _, by apply ByteArray.ext; simp [strOfNums]⟩
end Go.Proofs.YtckdpckdabfkbabDoor.Scan
