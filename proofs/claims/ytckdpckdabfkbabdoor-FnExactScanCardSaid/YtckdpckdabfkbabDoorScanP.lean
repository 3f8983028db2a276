/- What a scan computes: bounds; the sentences of a text. -/
import Derived.Test.YtckdpckdabfkbabDoorScanS
import Derived.Laws.BytesArg
namespace Go.Proofs.YtckdpckdabfkbabDoor.Scan
open Go.RowKit Go.Proofs.YtckdpckdabfkbabDoorW.PrintWords Go.Proofs.YtckdpckdabfkbabDoor.Plain Go.Proofs.YtckdpckdabfkbabDoor.Num
set_option linter.unusedVariables false
set_option linter.unusedSimpArgs false
theorem len_seg (o : List Int) (D : ByteArray) (p k : Nat) : (o ++ seg D p k).length = o.length + k := by rw [List.length_append, seg_len]
theorem inner_ok (S : Sp) (D : ByteArray) (s : Nat) : ∀ (k p : Nat) (out : List Int) (nn : Bool), p ≤ D.size → s + out.length ≤ p → p ≤ (inner S D k p out nn).1 ∧ (inner S D k p out nn).1 ≤ D.size ∧ s + (inner S D k p out nn).2.length ≤ (inner S D k p out nn).1 := by
  intro k
  induction k with
  | zero => intro p out nn h1 h2; exact ⟨Nat.le_refl _, h1, h2⟩
  | succ k ih =>
    intro p out nn h1 h2
    by_cases hp : p < D.size
    · obtain ⟨q1, q2, q3⟩ := rn_size D p hp
      obtain ⟨r, hr⟩ : ∃ r, (rn D p).1 = r := ⟨_, rfl⟩
      obtain ⟨sz, hsz⟩ : ∃ sz, (rn D p).2 = sz := ⟨_, rfl⟩
      have hrs : rn D p = (r, sz) := by rw [← hr, ← hsz]
      rw [hsz] at q1 q2
      cases hsp : S.sp r with
      | true =>
        cases hlf : S.lf r with
        | true =>
          cases nn with
          | true => rw [inner_1 hp hrs hsp hlf]; exact ⟨by simp, q2, by simp only; omega⟩
          | false => rw [inner_2 hp hrs hsp hlf]; have := ih (p + sz) out true q2 (by omega); exact ⟨by omega, this.2⟩
        | false => rw [inner_3 hp hrs hsp hlf]; have := ih (p + sz) out nn q2 (by omega); exact ⟨by omega, this.2⟩
      | false =>
        cases hd : (S.isD r || S.isF r) with
        | true => rw [inner_4 hp hrs hsp hd]; have := ih (p + sz) (out ++ seg D p sz) nn q2 (by rw [len_seg]; omega); exact ⟨by omega, this.2⟩
        | false => rw [inner_5 hp hrs hsp hd]; exact ⟨Nat.le_refl _, h1, h2⟩
    · rw [inner_end hp]; exact ⟨Nat.le_refl _, h1, h2⟩
structure ROk (D : ByteArray) (fin : Bool) (p : Nat) (R : Res) : Prop where
  o : R.start + R.out.length ≤ D.size
  a : R.adv ≤ D.size
  t : R.tok = true → p ≤ R.adv ∧ R.start + R.out.length ≤ R.adv
  l : R.tok = true → p < D.size → p < R.adv
  f : fin = true → R.tok = true
theorem ROk.up {D : ByteArray} {fin : Bool} {p q : Nat} {R : Res} (h : ROk D fin q R) (hp : p < q) : ROk D fin p R :=
  ⟨h.o, h.a, fun e => ⟨by have := (h.t e).1; omega, (h.t e).2⟩, fun e _ => by have := (h.t e).1; omega, h.f⟩
theorem ROk.mk1 {D : ByteArray} {fin : Bool} {p q s : Nat} {out : List Int} (h1 : p < q) (h2 : q ≤ D.size) (h3 : s + out.length ≤ q) : ROk D fin p ⟨q, true, s, out⟩ :=
  ⟨by simp only; omega, h2, fun _ => ⟨by simp only; omega, h3⟩, fun _ _ => h1, fun _ => rfl⟩
theorem outer_ok (S : Sp) (D : ByteArray) (fin : Bool) : ∀ (k p s : Nat) (out : List Int) (cnt : Nat) (head nn : Bool), p ≤ D.size → s + out.length ≤ p → ROk D fin p (outer S D fin (k + 1) p s out cnt head nn) ∧ (D.size ≤ p + k → True) := by
  intro k
  induction k with
  | zero =>
    intro p s out cnt head nn h1 h2
    refine ⟨?_, fun _ => trivial⟩
    by_cases hp : p < D.size
    · obtain ⟨q1, q2, q3⟩ := rn_size D p hp
      obtain ⟨r, hr⟩ : ∃ r, (rn D p).1 = r := ⟨_, rfl⟩
      obtain ⟨sz, hsz⟩ : ∃ sz, (rn D p).2 = sz := ⟨_, rfl⟩
      have hrs : rn D p = (r, sz) := by rw [← hr, ← hsz]
      rw [hsz] at q1 q2
      have z : ∀ (s : Nat) (o : List Int) (c : Nat) (h n : Bool), outer S D fin 0 (p + sz) s o c h n = ⟨p + sz, true, s, o⟩ := fun _ _ _ _ _ => rfl
      cases hsp : S.sp r with
      | true =>
        cases head with
        | true => rw [outer_a1 hp hrs hsp, z]; exact ROk.mk1 (by omega) q2 (by simp)
        | false =>
          cases hd : S.isD r with
          | true => rw [outer_a2 hp hrs hsp hd]; exact ROk.mk1 (by omega) q2 (by omega)
          | false =>
            cases hlf : S.lf r with
            | true =>
              cases nn with
              | true => rw [outer_a3 hp hrs hsp hd hlf]; exact ROk.mk1 (by omega) q2 (by omega)
              | false => rw [outer_a4 hp hrs hsp hd hlf, z]; exact ROk.mk1 (by omega) q2 (by omega)
            | false => rw [outer_a5 hp hrs hsp hd hlf, z]; exact ROk.mk1 (by omega) q2 (by omega)
      | false =>
        cases hln : (S.lf r && nn) with
        | true =>
          simp only [Bool.and_eq_true] at hln
          obtain ⟨hlf, rfl⟩ := hln
          rw [outer_b1 hp hrs hsp hlf]; exact ROk.mk1 (by omega) q2 (by rw [len_seg]; omega)
        | false =>
          cases hv : ((!S.isD r) && decide (((cnt + 1 : Nat) : Int) < S.most)) with
          | true => rw [outer_b2 hp hrs hsp hln hv, z]; exact ROk.mk1 (by omega) q2 (by rw [len_seg]; omega)
          | false =>
            rw [outer_b3 hp hrs hsp hln hv]
            have := inner_ok S D s 0 (p + sz) (out ++ seg D p sz) false q2 (by rw [len_seg]; omega)
            exact ROk.mk1 (by omega) this.2.1 this.2.2
    · rw [outer_end hp]
      cases fin with
      | true => rw [if_pos rfl]; exact ⟨by simp only; omega, Nat.le_refl _, fun _ => ⟨h1, by simp only; omega⟩, fun _ h => absurd h hp, fun _ => rfl⟩
      | false => rw [if_neg (by simp)]; exact ⟨by simp only; omega, by simp only; omega, (fun e => by cases e), (fun e => by cases e), (fun e => by cases e)⟩
  | succ k ih =>
    intro p s out cnt head nn h1 h2
    refine ⟨?_, fun _ => trivial⟩
    by_cases hp : p < D.size
    · obtain ⟨q1, q2, q3⟩ := rn_size D p hp
      obtain ⟨r, hr⟩ : ∃ r, (rn D p).1 = r := ⟨_, rfl⟩
      obtain ⟨sz, hsz⟩ : ∃ sz, (rn D p).2 = sz := ⟨_, rfl⟩
      have hrs : rn D p = (r, sz) := by rw [← hr, ← hsz]
      rw [hsz] at q1 q2
      have lt : p < p + sz := by omega
      cases hsp : S.sp r with
      | true =>
        cases head with
        | true => rw [outer_a1 hp hrs hsp]; exact (ih _ _ _ _ _ _ q2 (by simp)).1.up lt
        | false =>
          cases hd : S.isD r with
          | true => rw [outer_a2 hp hrs hsp hd]; exact ROk.mk1 (by omega) q2 (by omega)
          | false =>
            cases hlf : S.lf r with
            | true =>
              cases nn with
              | true => rw [outer_a3 hp hrs hsp hd hlf]; exact ROk.mk1 (by omega) q2 (by omega)
              | false => rw [outer_a4 hp hrs hsp hd hlf]; exact (ih _ _ _ _ _ _ q2 (by omega)).1.up lt
            | false => rw [outer_a5 hp hrs hsp hd hlf]; exact (ih _ _ _ _ _ _ q2 (by omega)).1.up lt
      | false =>
        cases hln : (S.lf r && nn) with
        | true =>
          simp only [Bool.and_eq_true] at hln
          obtain ⟨hlf, rfl⟩ := hln
          rw [outer_b1 hp hrs hsp hlf]; exact ROk.mk1 (by omega) q2 (by rw [len_seg]; omega)
        | false =>
          cases hv : ((!S.isD r) && decide (((cnt + 1 : Nat) : Int) < S.most)) with
          | true => rw [outer_b2 hp hrs hsp hln hv]; exact (ih _ _ _ _ _ _ q2 (by rw [len_seg]; omega)).1.up lt
          | false =>
            rw [outer_b3 hp hrs hsp hln hv]
            have := inner_ok S D s (k + 1) (p + sz) (out ++ seg D p sz) false q2 (by rw [len_seg]; omega)
            exact ROk.mk1 (by omega) this.2.1 this.2.2
    · rw [outer_end hp]
      cases fin with
      | true => rw [if_pos rfl]; exact ⟨by simp only; omega, Nat.le_refl _, fun _ => ⟨h1, by simp only; omega⟩, fun _ h => absurd h hp, fun _ => rfl⟩
      | false => rw [if_neg (by simp)]; exact ⟨by simp only; omega, by simp only; omega, (fun e => by cases e), (fun e => by cases e), (fun e => by cases e)⟩
theorem scan_ok (S : Sp) (D : ByteArray) (fin : Bool) : ROk D fin 0 (scan S D fin) := (outer_ok S D fin D.size 0 0 [] 0 true false (Nat.zero_le _) (by simp)).1
/-- What is left of bytes. -/
def rest (D : ByteArray) (n : Nat) : ByteArray := D.extract n D.size
theorem rest_size (D : ByteArray) (n : Nat) : (rest D n).size = D.size - n := by simp [rest, ByteArray.size_extract]
/-- The sentences of a text. -/
def outs (S : Sp) : Nat → ByteArray → List ByteArray
  | 0, _ => []
  | k + 1, D => if D.size = 0 then [] else strOfNums (scan S D true).out :: outs S k (rest D (scan S D true).adv)
theorem by_rest (D : ByteArray) (n j : Nat) : by' (rest D n) j = by' D (n + j) := by
  unfold by' rest; rw [ext_get]
end Go.Proofs.YtckdpckdabfkbabDoor.Scan
