/- What a scan calls. -/
import Derived.Test.YtckdpckdabfkbabDoorScan0
namespace Go.Proofs.YtckdpckdabfkbabDoor.Scan
open Go.RowKit Go.Proofs.YtckdpckdabfkbabDoorW.PrintWords Go.Proofs.YtckdpckdabfkbabDoor.Plain Go.Proofs.YtckdpckdabfkbabDoor.Num Go.Proofs.YtckdpckdabfkbabDoor.PC
set_option linter.unusedVariables false
set_option linter.unusedSimpArgs false

theorem ext_get (D : ByteArray) (p j : Nat) : (D.extract p D.size).get! j = D.get! (p + j) := by
  have h : (D.extract p D.size).data = D.data.extract p D.size := by simp
  have h1 : (D.extract p D.size).get! j = (D.extract p D.size).data[j]! := rfl
  have h2 : D.get! (p + j) = D.data[p + j]! := rfl
  rw [h1, h2, h, getElem!_def, getElem!_def, Array.getElem?_extract]
  have e : D.size = D.data.size := rfl
  by_cases hj : j < min D.size D.data.size - p
  · rw [if_pos hj]
  · rw [if_neg hj, Array.getElem?_eq_none (by omega)]
theorem ext_dec (D : ByteArray) (p : Nat) (hp : p < D.size) : Lib.decodeGo (D.extract p D.size) = Utf8.decode D p := by
  have es : (D.extract p D.size).size = D.size - p := by simp [ByteArray.size_extract]
  have : ¬ (D.extract p D.size).size = 0 := by omega
  simp only [Lib.decodeGo, this, if_false]
  rw [Lib.decode_at, Lib.decode_at, es, ext_get, ext_get, ext_get, ext_get]
  simp only [Nat.zero_add, Nat.add_zero, Nat.sub_zero]
theorem rd_nat (l : List Int) (i : Nat) (h : i < l.length) : rd l (i : Int) = l[i] := by
  simp only [rd, Int.toNat_natCast]; rw [List.getD_eq_getElem?_getD, List.getElem?_eq_getElem h]; rfl
theorem drop_one {l : List Int} {i : Nat} (h : i < l.length) : l.drop i = l[i] :: l.drop (i + 1) := by simp
theorem delim_ev (l m : List Int) (x y : Bool) (z a : Int) (hl : l.length ≤ 9223372036854775807) : Ev (fun k => filter_SentenceSplitter_isDelim.f k l m x y z a) (decide (a ∈ l)) := by
  have loop : ∀ (d i : Nat), l.length - i = d → i ≤ l.length → Ev (fun k => filter_SentenceSplitter_isDelim.l0 k a l (l.length : Int) (i : Int)) (decide (a ∈ l.drop i)) := by
    intro d
    induction d with
    | zero =>
      intro i hd hi
      have : l.drop i = [] := List.drop_eq_nil_of_le (by omega)
      rw [this]
      exact Ev.step (f := fun _ => some false) (fun k => by simp only [filter_SentenceSplitter_isDelim.l0]; rw [if_neg (by omega)]) (Ev.now _)
    | succ d ih =>
      intro i hd hi
      have hlt : i < l.length := by omega
      rw [drop_one hlt]
      by_cases h : a = l[i]
      · rw [decide_eq_true (by rw [h]; exact List.mem_cons_self)]
        exact Ev.step (f := fun _ => some true) (fun k => by simp only [filter_SentenceSplitter_isDelim.l0]; rw [if_pos (by omega), if_pos (by omega), if_pos (by omega), rd_nat _ _ hlt, if_pos h]) (Ev.now _)
      · have e1 : wrap64 ((i : Int) + 1) = ((i + 1 : Nat) : Int) := by rw [wrap_ok (by omega) (by omega)]; omega
        have e2 : decide (a ∈ l[i] :: l.drop (i + 1)) = decide (a ∈ l.drop (i + 1)) := by simp only [List.mem_cons, h, false_or]
        rw [e2]
        exact Ev.step (fun k => by simp only [filter_SentenceSplitter_isDelim.l0]; rw [if_pos (by omega), if_pos (by omega), if_pos (by omega), rd_nat _ _ hlt, if_neg h, e1]) (ih (i + 1) (by omega) (by omega))
  have := loop l.length 0 rfl (by omega)
  simpa [filter_SentenceSplitter_isDelim.f] using this
theorem foll_ev (m l : List Int) (x y : Bool) (z a : Int) (hl : l.length ≤ 9223372036854775807) : Ev (fun k => filter_SentenceSplitter_isFollower.f k m l x y z a) (decide (a ∈ l)) := by
  have loop : ∀ (d i : Nat), l.length - i = d → i ≤ l.length → Ev (fun k => filter_SentenceSplitter_isFollower.l0 k a l (l.length : Int) (i : Int)) (decide (a ∈ l.drop i)) := by
    intro d
    induction d with
    | zero =>
      intro i hd hi
      have : l.drop i = [] := List.drop_eq_nil_of_le (by omega)
      rw [this]
      exact Ev.step (f := fun _ => some false) (fun k => by simp only [filter_SentenceSplitter_isFollower.l0]; rw [if_neg (by omega)]) (Ev.now _)
    | succ d ih =>
      intro i hd hi
      have hlt : i < l.length := by omega
      rw [drop_one hlt]
      by_cases h : a = l[i]
      · rw [decide_eq_true (by rw [h]; exact List.mem_cons_self)]
        exact Ev.step (f := fun _ => some true) (fun k => by simp only [filter_SentenceSplitter_isFollower.l0]; rw [if_pos (by omega), if_pos (by omega), if_pos (by omega), rd_nat _ _ hlt, if_pos h]) (Ev.now _)
      · have e1 : wrap64 ((i : Int) + 1) = ((i + 1 : Nat) : Int) := by rw [wrap_ok (by omega) (by omega)]; omega
        have e2 : decide (a ∈ l[i] :: l.drop (i + 1)) = decide (a ∈ l.drop (i + 1)) := by simp only [List.mem_cons, h, false_or]
        rw [e2]
        exact Ev.step (fun k => by simp only [filter_SentenceSplitter_isFollower.l0]; rw [if_pos (by omega), if_pos (by omega), if_pos (by omega), rd_nat _ _ hlt, if_neg h, e1]) (ih (i + 1) (by omega) (by omega))
  have := loop l.length 0 rfl (by omega)
  simpa [filter_SentenceSplitter_isFollower.f] using this

/-- What a scan may lean on at w, whatever becomes of the block b. -/
structure Base (w : World) (b : Nat) (S : Sp) (Ad Af : Option Addr) (cd cf : Nat) : Prop where
  del : ∀ W, Kp w W (fun x => x = b) → (Kd.int .i32).C W Ad S.del.length S.del
  delc : S.del.length ≤ cd
  fol : ∀ W, Kp w W (fun x => x = b) → (Kd.int .i32).C W Af S.fol.length S.fol
  folc : S.fol.length ≤ cf
  tabs : ∀ W, Kp w W (fun x => x = b) → Lib.Utf8Tabs 1 2 W
  white : ∀ W, Kp w W (fun x => x = b) → Lib.WhiteTab 0 W
abbrev sv (S : Sp) (Ad Af : Option Addr) (cd cf : Nat) : Array Value := #[.slice Ad S.del.length cd, .slice Af S.fol.length cf, .bool S.skip, .bool S.dbl, .int .i64 S.most]
theorem isD_calls {w W : World} {b : Nat} {S : Sp} {Ad Af : Option Addr} {cd cf : Nat} (h : Base w b S Ad Af cd cf) (k : Kp w W (fun x => x = b)) (r : Nat) :
    Calls Tryd.prog 52 #[.agg (sv S Ad Af cd cf), .int .i32 r] W fun e w' => e = .returned (.bool (S.isD r)) ∧ Below W.heap.size W w' := by
  obtain ⟨j, hj⟩ := delim_ev S.del S.fol S.skip S.dbl S.most (r : Int) (h.del W k).2.1
  exact filter_SentenceSplitter_isDelim.calls j Ad cd S.del Af cf S.fol S.skip S.dbl S.most r _ W (h.del W k) h.delc (h.fol W k) h.folc (hj j (Nat.le_refl _))
theorem isF_calls {w W : World} {b : Nat} {S : Sp} {Ad Af : Option Addr} {cd cf : Nat} (h : Base w b S Ad Af cd cf) (k : Kp w W (fun x => x = b)) (r : Nat) :
    Calls Tryd.prog 53 #[.agg (sv S Ad Af cd cf), .int .i32 r] W fun e w' => e = .returned (.bool (S.isF r)) ∧ Below W.heap.size W w' := by
  obtain ⟨j, hj⟩ := foll_ev S.del S.fol S.skip S.dbl S.most (r : Int) (h.fol W k).2.1
  exact filter_SentenceSplitter_isFollower.calls j Ad cd S.del Af cf S.fol S.skip S.dbl S.most r _ W (h.del W k) h.delc (h.fol W k) h.folc (hj j (Nat.le_refl _))
theorem space_calls {w W : World} {b : Nat} {S : Sp} {Ad Af : Option Addr} {cd cf : Nat} (h : Base w b S Ad Af cd cf) (k : Kp w W (fun x => x = b)) (r : Nat) (hr : r ≤ 1114111) :
    Calls Tryd.prog 41 #[.int .i32 r] W fun e w' => e = .returned (.bool (Lib.isSpaceZ r)) ∧ Below W.heap.size W w' :=
  Tryd.unicode_IsSpace_any r W (by omega) (by omega) (h.white W k)
theorem dec_calls {w W : World} {b off : Nat} {S : Sp} {Ad Af : Option Addr} {cd cf : Nat} {D : ByteArray} {s : Nat} {out : List Int} (h : Base w b S Ad Af cd cf) (hs : SI w W b off D.size (mem D s out)) (p c : Nat) (hp : p < D.size) (hq : s + out.length ≤ p) :
    Calls Tryd.prog 51 #[.slice (some ((⟨b, off, none⟩ : Addr).add p)) (D.size - p) c] W fun e w' => e = .returned (.tuple #[.int .i32 (rn D p).1, .int .i64 (rn D p).2]) ∧ Below W.heap.size W w' := by
  have ea : (⟨b, off, none⟩ : Addr).add p = ⟨b, off + p, none⟩ := by unfold Addr.add; by_cases h : p = 0 <;> simp [h]
  have es : (D.extract p D.size).size = D.size - p := by simp [ByteArray.size_extract]
  have ed : Lib.decodeGo (D.extract p D.size) = rn D p := ext_dec D p hp
  have := Dec.decodeRune (D.extract p D.size) b (off + p) c W (h.tabs W hs.kept) (fun j hj => by
    rw [es] at hj
    have h1 := hs.cell (p + j) (by omega)
    rw [mem_far _ _ _ _ (by omega)] at h1
    rw [ext_get, Nat.add_assoc]
    exact h1)
  rw [es, ed] at this
  rw [ea]
  exact this
end Go.Proofs.YtckdpckdabfkbabDoor.Scan
