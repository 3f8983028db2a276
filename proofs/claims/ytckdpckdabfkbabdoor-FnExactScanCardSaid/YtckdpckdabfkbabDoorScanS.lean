/- The steps of the model of a scan. -/
import Derived.Test.YtckdpckdabfkbabDoorScan1
namespace Go.Proofs.YtckdpckdabfkbabDoor.Scan
open Go.RowKit Go.Proofs.YtckdpckdabfkbabDoorW.PrintWords Go.Proofs.YtckdpckdabfkbabDoor.Plain Go.Proofs.YtckdpckdabfkbabDoor.Num
set_option linter.unusedVariables false
set_option linter.unusedSimpArgs false
section
variable {S : Sp} {D : ByteArray} {fin : Bool} {k p s : Nat} {out : List Int} {cnt : Nat} {head nn : Bool} {r sz : Nat}
theorem outer_a1 (hp : p < D.size) (hr : rn D p = (r, sz)) (h : S.sp r = true) : outer S D fin (k + 1) p s out cnt true nn = outer S D fin k (p + sz) (p + sz) [] cnt true nn := by
  rw [outer, if_pos hp, hr]; simp only [h, if_true]
theorem outer_a2 (hp : p < D.size) (hr : rn D p = (r, sz)) (h : S.sp r = true) (hd : S.isD r = true) : outer S D fin (k + 1) p s out cnt false nn = ⟨p + sz, true, s, out⟩ := by
  rw [outer, if_pos hp, hr]; simp [h, hd]
theorem outer_a3 (hp : p < D.size) (hr : rn D p = (r, sz)) (h : S.sp r = true) (hd : S.isD r = false) (hl : S.lf r = true) : outer S D fin (k + 1) p s out cnt false true = ⟨p + sz, true, s, out⟩ := by
  rw [outer, if_pos hp, hr]; simp [h, hd, hl]
theorem outer_a4 (hp : p < D.size) (hr : rn D p = (r, sz)) (h : S.sp r = true) (hd : S.isD r = false) (hl : S.lf r = true) : outer S D fin (k + 1) p s out cnt false false = outer S D fin k (p + sz) s out cnt false true := by
  rw [outer, if_pos hp, hr]; simp [h, hd, hl]
theorem outer_a5 (hp : p < D.size) (hr : rn D p = (r, sz)) (h : S.sp r = true) (hd : S.isD r = false) (hl : S.lf r = false) : outer S D fin (k + 1) p s out cnt false nn = outer S D fin k (p + sz) s out cnt false false := by
  rw [outer, if_pos hp, hr]; simp [h, hd, hl]
theorem outer_b1 (hp : p < D.size) (hr : rn D p = (r, sz)) (h : S.sp r = false) (hl : S.lf r = true) : outer S D fin (k + 1) p s out cnt head true = ⟨p + sz, true, s, out ++ seg D p sz⟩ := by
  rw [outer, if_pos hp, hr]; simp [h, hl]
theorem outer_b2 (hp : p < D.size) (hr : rn D p = (r, sz)) (h : S.sp r = false) (hl : (S.lf r && nn) = false) (hd : ((!S.isD r) && decide (((cnt + 1 : Nat) : Int) < S.most)) = true) : outer S D fin (k + 1) p s out cnt head nn = outer S D fin k (p + sz) s (out ++ seg D p sz) (cnt + 1) false (S.lf r || nn) := by
  rw [outer, if_pos hp, hr]; simp only [h, hl, hd, if_true, Bool.false_eq_true, if_false]
theorem outer_b3 (hp : p < D.size) (hr : rn D p = (r, sz)) (h : S.sp r = false) (hl : (S.lf r && nn) = false) (hd : ((!S.isD r) && decide (((cnt + 1 : Nat) : Int) < S.most)) = false) : outer S D fin (k + 1) p s out cnt head nn = ⟨(inner S D k (p + sz) (out ++ seg D p sz) false).1, true, s, (inner S D k (p + sz) (out ++ seg D p sz) false).2⟩ := by
  rw [outer, if_pos hp, hr]; simp only [h, hl, hd, if_true, Bool.false_eq_true, if_false]
theorem outer_end (hp : ¬ p < D.size) : outer S D fin (k + 1) p s out cnt head nn = if fin then ⟨D.size, true, s, out⟩ else ⟨s, false, s, out⟩ := by
  rw [outer, if_neg hp]
theorem inner_1 (hp : p < D.size) (hr : rn D p = (r, sz)) (h : S.sp r = true) (hl : S.lf r = true) : inner S D (k + 1) p out true = (p + sz, out) := by
  rw [inner, if_pos hp, hr]; simp [h, hl]
theorem inner_2 (hp : p < D.size) (hr : rn D p = (r, sz)) (h : S.sp r = true) (hl : S.lf r = true) : inner S D (k + 1) p out false = inner S D k (p + sz) out true := by
  rw [inner, if_pos hp, hr]; simp [h, hl]
theorem inner_3 (hp : p < D.size) (hr : rn D p = (r, sz)) (h : S.sp r = true) (hl : S.lf r = false) : inner S D (k + 1) p out nn = inner S D k (p + sz) out nn := by
  rw [inner, if_pos hp, hr]; simp [h, hl]
theorem inner_4 (hp : p < D.size) (hr : rn D p = (r, sz)) (h : S.sp r = false) (hd : (S.isD r || S.isF r) = true) : inner S D (k + 1) p out nn = inner S D k (p + sz) (out ++ seg D p sz) nn := by
  rw [inner, if_pos hp, hr]
  cases h1 : S.isD r
  · have h2 : S.isF r = true := by simpa [h1] using hd
    simp [h, h1, h2]
  · simp [h, h1]
theorem inner_5 (hp : p < D.size) (hr : rn D p = (r, sz)) (h : S.sp r = false) (hd : (S.isD r || S.isF r) = false) : inner S D (k + 1) p out nn = (p, out) := by
  rw [inner, if_pos hp, hr]
  simp only [Bool.or_eq_false_iff] at hd
  simp [h, hd.1, hd.2]
theorem inner_end (hp : ¬ p < D.size) : inner S D (k + 1) p out nn = (p, out) := by
  rw [inner, if_neg hp]
end
end Go.Proofs.YtckdpckdabfkbabDoor.Scan
