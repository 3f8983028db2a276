/- Plain facts of lists of bytes: splitting at a byte. -/
import Derived.Test.YtaejkbjepbifcabDoorWWords
import Derived.Lib.Strings
namespace Go.Proofs.YtaejkbjepbifcabDoor.Plain
open Go.RowKit Go.Proofs.YtaejkbjepbifcabDoorW.PrintWords

theorem wrap_ok {i : Int} (h0 : -9223372036854775808 ≤ i) (h1 : i ≤ 9223372036854775807) : wrap64 i = i := by unfold wrap64; omega
/-- A test whose outcome is known, among rounds. -/
theorem evp {α : Type} {c : Prop} [Decidable c] {A B : Nat → Option α} {r : α} (h : c) (hA : Ev A r) : Ev (fun k => if c then A k else B k) r := Ev.congr (fun _ => if_pos h) hA
theorem evn {α : Type} {c : Prop} [Decidable c] {A B : Nat → Option α} {r : α} (h : ¬ c) (hB : Ev B r) : Ev (fun k => if c then A k else B k) r := Ev.congr (fun _ => if_neg h) hB

/-- A text of bytes. -/
def ba (l : List UInt8) : ByteArray := ⟨l.toArray⟩
theorem ba_toList (l : List UInt8) : (ba l).data.toList = l := rfl
theorem ba_size (l : List UInt8) : (ba l).size = l.length := by show l.toArray.size = l.length; simp
theorem ba_of (s : ByteArray) : ba s.data.toList = s := by cases s; simp [ba]
theorem size_of (s : ByteArray) : s.size = s.data.toList.length := by show s.data.size = s.data.toList.length; simp
theorem ext_eq {s t : ByteArray} (h : s.data.toList = t.data.toList) : s = t := by rw [← ba_of s, ← ba_of t, h]
theorem app_data (a b : ByteArray) : (a ++ b).data.toList = a.data.toList ++ b.data.toList := by rw [ByteArray.data_append, Array.toList_append]
theorem extract_ba (s : ByteArray) (a b : Nat) : s.extract a b = ba ((s.data.toList.drop a).take (b - a)) := ext_eq (by rw [Lib.extract_data, ba_toList])

theorem bt_get (s : ByteArray) (i : Nat) (h : i < s.size) : bt s (i : Int) = ((s.data.toList[i]'(by rw [← size_of]; exact h)).toNat : Int) := by
  unfold bt
  rw [dif_pos (by simpa using h)]
  rfl

/-- Splitting at each place of a byte. -/
def sp (c : UInt8) : List UInt8 → List (List UInt8)
  | [] => [[]]
  | x :: l => if x = c then [] :: sp c l else match sp c l with
    | [] => [[x]]
    | h :: t => (x :: h) :: t

theorem sp_ne (c : UInt8) (l : List UInt8) : sp c l ≠ [] := by
  cases l with
  | nil => simp [sp]
  | cons x l =>
    unfold sp
    split
    · simp
    · split <;> simp

theorem sp_none {c : UInt8} : ∀ {l : List UInt8}, c ∉ l → sp c l = [l]
  | [], _ => rfl
  | x :: l, h => by
    have h1 : x ≠ c := fun e => h (by simp [e])
    have h2 : c ∉ l := fun e => h (by simp [e])
    unfold sp
    rw [if_neg h1, sp_none h2]

theorem sp_some {c : UInt8} (b : List UInt8) : ∀ {a : List UInt8}, c ∉ a → sp c (a ++ c :: b) = a :: sp c b
  | [], _ => by simp [sp]
  | x :: l, h => by
    have h1 : x ≠ c := fun e => h (by simp [e])
    have h2 : c ∉ l := fun e => h (by simp [e])
    rw [List.cons_append]
    conv => lhs; unfold sp
    rw [if_neg h1, sp_some b h2]

theorem sp_length (c : UInt8) : ∀ l : List UInt8, (sp c l).length ≤ l.length + 1
  | [] => by simp [sp]
  | x :: l => by
    have := sp_length c l
    unfold sp
    split
    · simp; omega
    · have hn := sp_ne c l
      split
      · simp
      · rename_i h t e
        rw [e] at this
        simp at this ⊢
        omega

theorem sp_part (c : UInt8) : ∀ (l : List UInt8) (p : List UInt8), p ∈ sp c l → p.length ≤ l.length
  | [], p, h => by simp [sp] at h; simp [h]
  | x :: l, p, h => by
    have ih := sp_part c l
    unfold sp at h
    split at h
    · rcases List.mem_cons.1 h with rfl | h
      · simp
      · have := ih p h; simp; omega
    · split at h
      · simp at h; subst h; simp
      · rename_i h0 t0 e
        rcases List.mem_cons.1 h with rfl | h
        · have := ih h0 (by rw [e]; simp); simp; omega
        · have := ih p (by rw [e]; simp [h]); simp; omega

/-- A list splits at the first place of a byte. -/
theorem first_of {c : UInt8} : ∀ {l : List UInt8}, c ∈ l → ∃ a b, l = a ++ c :: b ∧ c ∉ a
  | [], h => by cases h
  | x :: l, h => by
    by_cases e : x = c
    · exact ⟨[], l, by simp [e], by simp⟩
    · obtain ⟨a, b, h1, h2⟩ := first_of (l := l) (by rcases List.mem_cons.1 h with h | h; exact absurd h.symm e; exact h)
      exact ⟨x :: a, b, by simp [h1], by simp [h2]; exact fun h => e h.symm⟩

end Go.Proofs.YtaejkbjepbifcabDoor.Plain
