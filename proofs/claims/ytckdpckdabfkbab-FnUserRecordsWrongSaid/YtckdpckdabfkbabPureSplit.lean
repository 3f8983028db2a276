/- Plain facts of the program's own splitting functions: zzIndex and zzSplit at one byte. -/
import Derived.Test.YtckdpckdabfkbabPAx
import Derived.Test.YtckdpckdabfkbabPlain
namespace Go.Proofs.Ytckdpckdabfkbab.Pure
open Go.RowKit Go.Proofs.Ytckdpckdabfkbab.PA Go.Proofs.YtckdpckdabfkbabW.PrintWords Go.Proofs.YtckdpckdabfkbabW.PrintLast Go.Proofs.Ytckdpckdabfkbab.Plain

/-- zzIndex of one byte: from place i on. -/
theorem zzIndex_ev (s : ByteArray) (c : UInt8) (hs : s.size ≤ 140737488351232) : ∀ (d i : Nat), s.size - i ≤ d → i ≤ s.size →
    (c ∉ s.data.toList.drop i → Ev (fun k => dict_zzIndex.l0 k s ⟨#[c]⟩ (i : Int)) (-1)) ∧
    (∀ a b, s.data.toList.drop i = a ++ c :: b → c ∉ a → Ev (fun k => dict_zzIndex.l0 k s ⟨#[c]⟩ (i : Int)) ((i + a.length : Nat) : Int)) := by
  intro d
  induction d with
  | zero =>
    intro i hd hi
    have hi' : i = s.size := by omega
    have hdrop : s.data.toList.drop i = [] := by rw [hi', size_of]; simp
    refine ⟨fun _ => ?_, fun a b h => ?_⟩
    · refine Ev.step (f := fun _ => some (-1)) (fun k => ?_) (Ev.now _)
      simp only [dict_zzIndex.l0]
      have e : (((⟨#[c]⟩ : ByteArray).size : Nat) : Int) = 1 := rfl
      rw [e, wrap_ok (by omega) (by omega), if_neg (by omega)]
    · rw [hdrop] at h; simp at h
  | succ d ih =>
    intro i hd hi
    by_cases hlt : i < s.size
    · obtain ⟨ih1, ih2⟩ := ih (i + 1) (by omega) (by omega)
      have hlt' : i < s.data.toList.length := by rw [← size_of]; exact hlt
      have hdrop : s.data.toList.drop i = s.data.toList[i] :: s.data.toList.drop (i + 1) := List.drop_eq_getElem_cons hlt'
      have e : (((⟨#[c]⟩ : ByteArray).size : Nat) : Int) = 1 := rfl
      have ew : wrap64 ((i : Int) + 1) = ((i + 1 : Nat) : Int) := by rw [wrap_ok (by omega) (by omega)]; omega
      have ex : (s.extract ((i : Int)).toNat (((i + 1 : Nat) : Int)).toNat).toList = [s.data.toList[i]] := by
        rw [Lib.extract_toList, Int.toNat_natCast, Int.toNat_natCast, hdrop]
        simp
      have et : (⟨#[c]⟩ : ByteArray).toList = [c] := by rw [Lib.toList_data]
      by_cases hc : s.data.toList[i] = c
      · refine ⟨fun h => absurd ?_ h, fun a b h hn => ?_⟩
        · rw [hdrop, hc]; simp
        · have ha : a = [] := by
            cases a with
            | nil => rfl
            | cons x a =>
              rw [hdrop, hc] at h
              simp at h
              exact absurd (by rw [← h.1]; simp) hn
          subst ha
          refine Ev.step (f := fun _ => some (i : Int)) (fun k => ?_) (Ev.now _)
          simp only [dict_zzIndex.l0]
          rw [e, ew, if_pos (by omega), if_pos (by omega), if_pos (by omega), ex, et, if_pos (by rw [hc])]
      · have step : ∀ k, dict_zzIndex.l0 (k + 1) s ⟨#[c]⟩ (i : Int) = dict_zzIndex.l0 k s ⟨#[c]⟩ ((i + 1 : Nat) : Int) := by
          intro k
          simp only [dict_zzIndex.l0]
          rw [e, ew, if_pos (by omega), if_pos (by omega), if_pos (by omega), ex, et, if_neg (by simpa using hc)]
        refine ⟨fun h => ?_, fun a b h hn => ?_⟩
        · exact Ev.step step (ih1 (fun hm => h (by rw [hdrop]; exact List.mem_cons_of_mem _ hm)))
        · cases a with
          | nil =>
            rw [hdrop] at h
            simp at h
            exact absurd h.1 hc
          | cons x a =>
            rw [hdrop] at h
            simp at h
            have := Ev.step (g := fun k => dict_zzIndex.l0 k s ⟨#[c]⟩ (i : Int)) step (ih2 a b h.2 (fun hm => hn (List.mem_cons_of_mem _ hm)))
            rw [show i + (x :: a).length = i + 1 + a.length by simp; omega]
            exact this
    · have hi' : i = s.size := by omega
      exact (ih i (by omega) hi)

theorem zzIndex_f (s : ByteArray) (c : UInt8) (hs : s.size ≤ 140737488351232) :
    (c ∉ s.data.toList → Ev (fun k => dict_zzIndex.f k s ⟨#[c]⟩) (-1)) ∧ (∀ a b, s.data.toList = a ++ c :: b → c ∉ a → Ev (fun k => dict_zzIndex.f k s ⟨#[c]⟩) (a.length : Int)) := by
  have := zzIndex_ev s c hs s.size 0 (by omega) (by omega)
  simp only [List.drop_zero] at this
  refine ⟨fun h => this.1 h, fun a b h hn => ?_⟩
  have := this.2 a b h hn
  simpa [dict_zzIndex.f] using this

/-- zzSplit at one byte. -/
theorem zzSplit_ev (c : UInt8) : ∀ (d : Nat) (l : List UInt8) (out : List ByteArray), l.length ≤ d → l.length ≤ 140737488351232 → out.length + l.length < 8796093022208 →
    Ev (fun k => dict_zzSplit.l1 k (ba l) ⟨#[c]⟩ out) (out ++ (sp c l).map ba) := by
  intro d
  induction d with
  | zero =>
    intro l out hd hl ho
    have : l = [] := List.length_eq_zero_iff.1 (by omega)
    subst this
    have hz := (zzIndex_f (ba []) c (by rw [ba_size]; simp)).1 (by simp [ba])
    refine Ev.step (f := fun k => (dict_zzIndex.f k (ba []) ⟨#[c]⟩).bind fun t106 => _) (fun k => by simp only [dict_zzSplit.l1]; rfl) (Ev.bind hz ?_)
    exact evp (by omega) (evp (by simpa using ho) (Ev.now _))
  | succ d ih =>
    intro l out hd hl ho
    by_cases hc : c ∈ l
    · obtain ⟨a, b, rfl, hn⟩ := first_of hc
      have hz := (zzIndex_f (ba (a ++ c :: b)) c (by rw [ba_size]; exact hl)).2 a b rfl hn
      simp only [List.length_append, List.length_cons] at hd hl ho
      refine Ev.step (f := fun k => (dict_zzIndex.f k (ba (a ++ c :: b)) ⟨#[c]⟩).bind fun t106 => _) (fun k => by simp only [dict_zzSplit.l1]; rfl) (Ev.bind hz ?_)
      have e : (((⟨#[c]⟩ : ByteArray).size : Nat) : Int) = 1 := rfl
      have es : ((ba (a ++ c :: b)).size : Int) = (a.length + (b.length + 1) : Nat) := by rw [ba_size]; simp
      have ew : wrap64 ((a.length : Int) + 1) = ((a.length + 1 : Nat) : Int) := by rw [wrap_ok (by omega) (by omega)]; omega
      have e1 : (ba (a ++ c :: b)).extract (((a.length + 1 : Nat) : Int)).toNat (ba (a ++ c :: b)).size = ba b := by
        rw [extract_ba, ba_toList, ba_size, Int.toNat_natCast]
        congr 1
        have : (a ++ c :: b).drop (a.length + 1) = b := by rw [List.drop_append]; simp
        rw [this, List.take_of_length_le]
        simp
        omega
      have e2 : (ba (a ++ c :: b)).extract 0 ((a.length : Int)).toNat = ba a := by
        rw [extract_ba, ba_toList, Int.toNat_natCast]
        congr 1
        simp
      have := ih b (out ++ [ba a]) (by omega) (by omega) (by simp; omega)
      rw [sp_some b hn]
      refine evn (by omega) (evp (by omega) (evp (by omega) (evp (by omega) (evp (by rw [e, ew]; omega) (evp (by rw [e, es, ew]; omega) ?_)))))
      rw [e, ew, e1, e2]
      simpa using this
    · have hz := (zzIndex_f (ba l) c (by rw [ba_size]; exact hl)).1 hc
      refine Ev.step (f := fun k => (dict_zzIndex.f k (ba l) ⟨#[c]⟩).bind fun t106 => _) (fun k => by simp only [dict_zzSplit.l1]; rfl) (Ev.bind hz ?_)
      rw [sp_none hc]
      exact evp (by omega) (evp (by omega) (Ev.now _))

theorem zzSplit_f (c : UInt8) (s : ByteArray) (hs : s.size < 8796093022208) : Ev (fun k => dict_zzSplit.f k s ⟨#[c]⟩) ((sp c s.data.toList).map ba) := by
  have := zzSplit_ev c s.data.toList.length s.data.toList [] (Nat.le_refl _) (by rw [← size_of]; omega) (by rw [← size_of]; simpa using hs)
  rw [ba_of] at this
  refine Ev.congr (f := fun k => dict_zzSplit.l1 k s ⟨#[c]⟩ []) (fun k => ?_) (by simpa using this)
  unfold dict_zzSplit.f
  have e : (((⟨#[c]⟩ : ByteArray).size : Nat) : Int) = 1 := rfl
  exact if_neg (by rw [e]; omega)

end Go.Proofs.Ytckdpckdabfkbab.Pure
