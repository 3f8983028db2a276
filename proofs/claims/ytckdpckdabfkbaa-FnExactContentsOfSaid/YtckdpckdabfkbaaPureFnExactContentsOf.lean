/- FnExactContentsOf: for every list of bytes the law comes to true: the contents that the package reads are rows at line feeds of columns at bytes 7, as the reference has them. -/
import Derived.Test.YtckdpckdabfkbaaPAx2
import Derived.Test.YtckdpckdabfkbaaPlain
namespace Go.Proofs.Ytckdpckdabfkbaa.Pure
open Go.RowKit Go.Proofs.Ytckdpckdabfkbaa.PA Go.Proofs.YtckdpckdabfkbaaW.PrintWords Go.Proofs.YtckdpckdabfkbaaW.PrintLast Go.Proofs.Ytckdpckdabfkbaa.Plain

/-- zzIndex of one byte: from place i on. -/
theorem zzIndex_ev (s : ByteArray) (c : UInt8) (hs : s.size ≤ 140737488351232) : ∀ (d i : Nat), s.size - i ≤ d → i ≤ s.size →
    (c ∉ s.data.toList.drop i → Ev (fun k => dict_zzIndex.l0 k s ⟨#[c]⟩ (i : Int)) (-1)) ∧
    (∀ a b, s.data.toList.drop i = a ++ c :: b → c ∉ a → Ev (fun k => dict_zzIndex.l0 k s ⟨#[c]⟩ (i : Int)) ((i + a.length : Nat) : Int)) := by
  intro d
  induction d with
  | zero =>
    intro i hd hi
    have hi' : i = s.size := by omega
    have hdrop : s.data.toList.drop i = [] := by rw [hi', size_of]; simp
    refine ⟨fun _ => ?_, fun a b h => ?_⟩
    · refine Ev.step (f := fun _ => some (-1)) (fun k => ?_) (Ev.now _)
      simp only [dict_zzIndex.l0]
      have e : (((⟨#[c]⟩ : ByteArray).size : Nat) : Int) = 1 := rfl
      rw [e, wrap_ok (by omega) (by omega), if_neg (by omega)]
    · rw [hdrop] at h; simp at h
  | succ d ih =>
    intro i hd hi
    by_cases hlt : i < s.size
    · obtain ⟨ih1, ih2⟩ := ih (i + 1) (by omega) (by omega)
      have hlt' : i < s.data.toList.length := by rw [← size_of]; exact hlt
      have hdrop : s.data.toList.drop i = s.data.toList[i] :: s.data.toList.drop (i + 1) := List.drop_eq_getElem_cons hlt'
      have e : (((⟨#[c]⟩ : ByteArray).size : Nat) : Int) = 1 := rfl
      have ew : wrap64 ((i : Int) + 1) = ((i + 1 : Nat) : Int) := by rw [wrap_ok (by omega) (by omega)]; omega
      have ex : (s.extract ((i : Int)).toNat (((i + 1 : Nat) : Int)).toNat).toList = [s.data.toList[i]] := by
        rw [Lib.extract_toList, Int.toNat_natCast, Int.toNat_natCast, hdrop]
        simp
      have et : (⟨#[c]⟩ : ByteArray).toList = [c] := by rw [Lib.toList_data]
      by_cases hc : s.data.toList[i] = c
      · refine ⟨fun h => absurd ?_ h, fun a b h hn => ?_⟩
        · rw [hdrop, hc]; simp
        · have ha : a = [] := by
            cases a with
            | nil => rfl
            | cons x a =>
              rw [hdrop, hc] at h
              simp at h
              exact absurd (by rw [← h.1]; simp) hn
          subst ha
          refine Ev.step (f := fun _ => some (i : Int)) (fun k => ?_) (Ev.now _)
          simp only [dict_zzIndex.l0]
          rw [e, ew, if_pos (by omega), if_pos (by omega), if_pos (by omega), ex, et, if_pos (by rw [hc])]
      · have step : ∀ k, dict_zzIndex.l0 (k + 1) s ⟨#[c]⟩ (i : Int) = dict_zzIndex.l0 k s ⟨#[c]⟩ ((i + 1 : Nat) : Int) := by
          intro k
          simp only [dict_zzIndex.l0]
          rw [e, ew, if_pos (by omega), if_pos (by omega), if_pos (by omega), ex, et, if_neg (by simpa using hc)]
        refine ⟨fun h => ?_, fun a b h hn => ?_⟩
        · exact Ev.step step (ih1 (fun hm => h (by rw [hdrop]; exact List.mem_cons_of_mem _ hm)))
        · cases a with
          | nil =>
            rw [hdrop] at h
            simp at h
            exact absurd h.1 hc
          | cons x a =>
            rw [hdrop] at h
            simp at h
            have := Ev.step (g := fun k => dict_zzIndex.l0 k s ⟨#[c]⟩ (i : Int)) step (ih2 a b h.2 (fun hm => hn (List.mem_cons_of_mem _ hm)))
            rw [show i + (x :: a).length = i + 1 + a.length by simp; omega]
            exact this
    · have hi' : i = s.size := by omega
      exact (ih i (by omega) hi)

theorem zzIndex_f (s : ByteArray) (c : UInt8) (hs : s.size ≤ 140737488351232) :
    (c ∉ s.data.toList → Ev (fun k => dict_zzIndex.f k s ⟨#[c]⟩) (-1)) ∧ (∀ a b, s.data.toList = a ++ c :: b → c ∉ a → Ev (fun k => dict_zzIndex.f k s ⟨#[c]⟩) (a.length : Int)) := by
  have := zzIndex_ev s c hs s.size 0 (by omega) (by omega)
  simp only [List.drop_zero] at this
  refine ⟨fun h => this.1 h, fun a b h hn => ?_⟩
  have := this.2 a b h hn
  simpa [dict_zzIndex.f] using this

/-- zzSplit at one byte. -/
theorem zzSplit_ev (c : UInt8) : ∀ (d : Nat) (l : List UInt8) (out : List ByteArray), l.length ≤ d → l.length ≤ 140737488351232 → out.length + l.length < 8796093022208 →
    Ev (fun k => dict_zzSplit.l1 k (ba l) ⟨#[c]⟩ out) (out ++ (sp c l).map ba) := by
  intro d
  induction d with
  | zero =>
    intro l out hd hl ho
    have : l = [] := List.length_eq_zero_iff.1 (by omega)
    subst this
    have hz := (zzIndex_f (ba []) c (by rw [ba_size]; simp)).1 (by simp [ba])
    refine Ev.step (f := fun k => (dict_zzIndex.f k (ba []) ⟨#[c]⟩).bind fun t106 => _) (fun k => by simp only [dict_zzSplit.l1]; rfl) (Ev.bind hz ?_)
    exact evp (by omega) (evp (by simpa using ho) (Ev.now _))
  | succ d ih =>
    intro l out hd hl ho
    by_cases hc : c ∈ l
    · obtain ⟨a, b, rfl, hn⟩ := first_of hc
      have hz := (zzIndex_f (ba (a ++ c :: b)) c (by rw [ba_size]; exact hl)).2 a b rfl hn
      simp only [List.length_append, List.length_cons] at hd hl ho
      refine Ev.step (f := fun k => (dict_zzIndex.f k (ba (a ++ c :: b)) ⟨#[c]⟩).bind fun t106 => _) (fun k => by simp only [dict_zzSplit.l1]; rfl) (Ev.bind hz ?_)
      have e : (((⟨#[c]⟩ : ByteArray).size : Nat) : Int) = 1 := rfl
      have es : ((ba (a ++ c :: b)).size : Int) = (a.length + (b.length + 1) : Nat) := by rw [ba_size]; simp
      have ew : wrap64 ((a.length : Int) + 1) = ((a.length + 1 : Nat) : Int) := by rw [wrap_ok (by omega) (by omega)]; omega
      have e1 : (ba (a ++ c :: b)).extract (((a.length + 1 : Nat) : Int)).toNat (ba (a ++ c :: b)).size = ba b := by
        rw [extract_ba, ba_toList, ba_size, Int.toNat_natCast]
        congr 1
        have : (a ++ c :: b).drop (a.length + 1) = b := by rw [List.drop_append]; simp
        rw [this, List.take_of_length_le]
        simp
        omega
      have e2 : (ba (a ++ c :: b)).extract 0 ((a.length : Int)).toNat = ba a := by
        rw [extract_ba, ba_toList, Int.toNat_natCast]
        congr 1
        simp
      have := ih b (out ++ [ba a]) (by omega) (by omega) (by simp; omega)
      rw [sp_some b hn]
      refine evn (by omega) (evp (by omega) (evp (by omega) (evp (by omega) (evp (by rw [e, ew]; omega) (evp (by rw [e, es, ew]; omega) ?_)))))
      rw [e, ew, e1, e2]
      simpa using this
    · have hz := (zzIndex_f (ba l) c (by rw [ba_size]; exact hl)).1 hc
      refine Ev.step (f := fun k => (dict_zzIndex.f k (ba l) ⟨#[c]⟩).bind fun t106 => _) (fun k => by simp only [dict_zzSplit.l1]; rfl) (Ev.bind hz ?_)
      rw [sp_none hc]
      exact evp (by omega) (evp (by omega) (Ev.now _))

theorem zzSplit_f (c : UInt8) (s : ByteArray) (hs : s.size < 8796093022208) : Ev (fun k => dict_zzSplit.f k s ⟨#[c]⟩) ((sp c s.data.toList).map ba) := by
  have := zzSplit_ev c s.data.toList.length s.data.toList [] (Nat.le_refl _) (by rw [← size_of]; omega) (by rw [← size_of]; simpa using hs)
  rw [ba_of] at this
  refine Ev.congr (f := fun k => dict_zzSplit.l1 k s ⟨#[c]⟩ []) (fun k => ?_) (by simpa using this)
  unfold dict_zzSplit.f
  have e : (((⟨#[c]⟩ : ByteArray).size : Nat) : Int) = 1 := rfl
  exact if_neg (by rw [e]; omega)

/-- The reference's split. -/
theorem dSplit_ev (s : ByteArray) (c : UInt8) (hs : s.size < 8796093022208) : ∀ (d j i : Nat) (out : List ByteArray), s.size - i ≤ d → j ≤ i → i ≤ s.size → out.length + (s.size - i) < 8796093022208 → c ∉ (s.data.toList.drop j).take (i - j) →
    Ev (fun k => spec_dSplit.l0 k s (c.toNat : Int) out (j : Int) (i : Int)) (out ++ (sp c (s.data.toList.drop j)).map ba) := by
  intro d
  induction d with
  | zero =>
    intro j i out hd hj hi ho hc
    have hi' : i = s.size := by omega
    refine Ev.step (f := fun _ => some _) (fun k => ?_) (Ev.now _)
    simp only [spec_dSplit.l0]
    rw [if_neg (by omega), if_pos (by omega), if_pos (by omega), if_pos (by omega), Int.toNat_natCast, extract_ba]
    have h1 : (s.data.toList.drop j).take (s.size - j) = s.data.toList.drop j := List.take_of_length_le (by rw [List.length_drop, size_of]; omega)
    rw [hi', h1] at hc
    rw [h1, sp_none hc]
    rfl
  | succ d ih =>
    intro j i out hd hj hi ho hc
    by_cases hlt : i < s.size
    · have hlt' : i < s.data.toList.length := by rw [← size_of]; exact hlt
      have ew : wrap64 ((i : Int) + 1) = ((i + 1 : Nat) : Int) := by rw [wrap_ok (by omega) (by omega)]; omega
      have hb := bt_get s i hlt
      have hsplit : s.data.toList.drop j = (s.data.toList.drop j).take (i - j) ++ s.data.toList[i] :: s.data.toList.drop (i + 1) := by
        have h1 : s.data.toList.drop i = s.data.toList[i] :: s.data.toList.drop (i + 1) := List.drop_eq_getElem_cons hlt'
        have h2 : (s.data.toList.drop j).drop (i - j) = s.data.toList.drop i := by rw [List.drop_drop]; congr 1; omega
        rw [← h1, ← h2, List.take_append_drop]
      by_cases he : s.data.toList[i] = c
      · have hbc : bt s (i : Int) = (c.toNat : Int) := by rw [hb, he]
        have step : ∀ k, spec_dSplit.l0 (k + 1) s (c.toNat : Int) out (j : Int) (i : Int) = spec_dSplit.l0 k s (c.toNat : Int) (out ++ [ba ((s.data.toList.drop j).take (i - j))]) ((i + 1 : Nat) : Int) ((i + 1 : Nat) : Int) := by
          intro k
          simp only [spec_dSplit.l0]
          rw [if_pos (by omega), if_pos (by omega), if_pos hbc, if_pos (by omega), if_pos (by omega), if_pos (by omega), if_pos (by omega), ew, extract_ba, Int.toNat_natCast, Int.toNat_natCast]
        have := Ev.step (g := fun k => spec_dSplit.l0 k s (c.toNat : Int) out (j : Int) (i : Int)) step (ih (i + 1) (i + 1) _ (by omega) (by omega) (by omega) (by rw [List.length_append, List.length_singleton]; omega) (by simp))
        rw [hsplit, he, sp_some _ hc]
        simpa using this
      · have hbc : ¬ bt s (i : Int) = (c.toNat : Int) := by
          rw [hb]
          intro h
          exact he (UInt8.toNat_inj.1 (by omega))
        have step : ∀ k, spec_dSplit.l0 (k + 1) s (c.toNat : Int) out (j : Int) (i : Int) = spec_dSplit.l0 k s (c.toNat : Int) out (j : Int) ((i + 1 : Nat) : Int) := by
          intro k
          simp only [spec_dSplit.l0]
          rw [if_pos (by omega), if_pos (by omega), if_neg hbc, ew]
        refine Ev.step step (ih j (i + 1) out (by omega) (by omega) (by omega) (by omega) ?_)
        have : (s.data.toList.drop j).take (i + 1 - j) = (s.data.toList.drop j).take (i - j) ++ [s.data.toList[i]] := by
          rw [show i + 1 - j = (i - j) + 1 by omega]
          conv => lhs; rw [hsplit]
          have hl : ((s.data.toList.drop j).take (i - j)).length = i - j := by rw [List.length_take, List.length_drop]; omega
          rw [List.take_append, hl, show i - j + 1 - (i - j) = 1 by omega, List.take_of_length_le (by omega)]
          rfl
        rw [this]
        simp [hc]
        exact fun h => he h.symm
    · exact ih j i out (by omega) hj hi ho hc

theorem dSplit_f (c : UInt8) (s : ByteArray) (hs : s.size < 8796093022208) : Ev (fun k => spec_dSplit.f k s (c.toNat : Int)) ((sp c s.data.toList).map ba) := by
  have := dSplit_ev s c hs s.size 0 0 [] (by omega) (by omega) (by omega) (by simpa using hs) (by simp)
  simpa [spec_dSplit.f] using this

/-- The contents of bytes. -/
def rowsOf (s : ByteArray) : List (List ByteArray) := ((sp 10 s.data.toList).map ba).map fun r => (sp 7 r.data.toList).map ba

theorem NewContents_ev (rows : List ByteArray) (hr : ∀ r ∈ rows, r.size < 8796093022208) (hl : rows.length ≤ 11728124029610) : ∀ (d i : Nat) (m : List (List ByteArray)), rows.length - i ≤ d → i ≤ rows.length → m.length = rows.length →
    m.take i = (rows.take i).map (fun r => (sp 7 r.data.toList).map ba) →
    Ev (fun k => dict_NewContents.l0 k m rows (rows.length : Int) (i : Int)) (rows.map fun r => (sp 7 r.data.toList).map ba) := by
  intro d
  induction d with
  | zero =>
    intro i m hd hi hm ht
    have hi' : i = rows.length := by omega
    refine Ev.step (f := fun _ => some m) (fun k => ?_) ?_
    · simp only [dict_NewContents.l0]
      rw [if_neg (by omega)]
    · have : m = rows.map (fun r => (sp 7 r.data.toList).map ba) := by
        rw [hi', ← hm, List.take_length] at ht
        rw [ht, hm, List.take_length]
      rw [this]
      exact Ev.now _
  | succ d ih =>
    intro i m hd hi hm ht
    by_cases hlt : i < rows.length
    · have ew : wrap64 ((i : Int) + 1) = ((i + 1 : Nat) : Int) := by rw [wrap_ok (by omega) (by omega)]; omega
      have hg : rdOf ByteArray.empty rows (i : Int) = rows[i] := by simp [rdOf, hlt]
      have hz := zzSplit_f 7 rows[i] (hr _ (List.getElem_mem hlt))
      refine Ev.step (f := fun k => (dict_zzSplit.f k rows[i] ⟨#[7]⟩).bind fun t120 => (if (i : Int) < (m.length : Int) then (dict_NewContents.l0 k (m.set (i : Int).toNat t120) rows (rows.length : Int) ((i + 1 : Nat) : Int)) else (none))) (fun k => ?_) (Ev.bind hz ?_)
      · simp only [dict_NewContents.l0]
        rw [if_pos (by omega), if_pos (by omega), if_pos (by omega), hg, ew]
      · refine evp (by omega) ?_
        refine ih (i + 1) _ (by omega) (by omega) (by simp [hm]) ?_
        rw [Int.toNat_natCast, List.take_succ_eq_append_getElem (by rw [List.length_set]; omega), List.take_set_of_le (Nat.le_refl _), ht, List.take_succ_eq_append_getElem hlt, List.map_append]
        simp
    · exact ih i m (by omega) hi hm ht

theorem NewContents_f (l : List Int) (hs : (strOfNums l).size ≤ 2000) : Ev (fun k => dict_NewContents.f k l) (rowsOf (strOfNums l)) := by
  have hz := zzSplit_f 10 (strOfNums l) (by omega)
  have hlen : ((sp 10 (strOfNums l).data.toList).map ba).length ≤ 2001 := by
    have := sp_length 10 (strOfNums l).data.toList
    rw [← size_of] at this
    rw [List.length_map]
    omega
  refine Ev.congr (fun k => rfl) (Ev.bind hz ?_)
  refine evp (by omega) (evp (by omega) ?_)
  refine NewContents_ev _ (fun r hr => ?_) (by omega) _ 0 _ (Nat.le_refl _) (Nat.zero_le _) (by simp) (by simp)
  obtain ⟨p, hp, rfl⟩ := List.mem_map.1 hr
  have := sp_part 10 _ p hp
  rw [← size_of] at this
  rw [ba_size]
  omega

theorem ContentsOf_f (l : List Int) (hl : l.length ≤ 2000) (hs : (strOfNums l).size ≤ 2000) : Ev (fun k => impl_ContentsOf.f k l) (rowsOf (strOfNums l)) := by
  have h := NewContents_f l hs
  refine Ev.congr (f := fun k => dict_NewContents.f k l) (fun k => ?_) h
  unfold impl_ContentsOf.f slices_Clone_byte_byte.f
  simp only [Option.bind_some, List.length_nil, List.nil_append, Nat.zero_add]
  rw [if_pos (by omega)]
  simp

theorem specLoop_ev (rows : List ByteArray) (hr : ∀ r ∈ rows, r.size < 8796093022208) (hl : rows.length ≤ 100000) : ∀ (d i : Nat) (out : List (List ByteArray)), rows.length - i ≤ d → i ≤ rows.length → out = (rows.take i).map (fun r => (sp 7 r.data.toList).map ba) →
    Ev (fun k => spec_ContentsOf.l0 k out rows (rows.length : Int) (i : Int)) (rows.map (fun r => (sp 7 r.data.toList).map ba), true) := by
  intro d
  induction d with
  | zero =>
    intro i out hd hi ht
    have hi' : i = rows.length := by omega
    refine Ev.step (f := fun _ => some (out, true)) (fun k => ?_) ?_
    · simp only [spec_ContentsOf.l0]
      rw [if_neg (by omega)]
    · rw [ht, hi', List.take_length]
      exact Ev.now _
  | succ d ih =>
    intro i out hd hi ht
    by_cases hlt : i < rows.length
    · have ew : wrap64 ((i : Int) + 1) = ((i + 1 : Nat) : Int) := by rw [wrap_ok (by omega) (by omega)]; omega
      have hg : rdOf ByteArray.empty rows (i : Int) = rows[i] := by simp [rdOf, hlt]
      have hz := dSplit_f 7 rows[i] (hr _ (List.getElem_mem hlt))
      have ho : out.length < 5864062014805 := by rw [ht, List.length_map, List.length_take]; omega
      refine Ev.step (f := fun k => (spec_dSplit.f k rows[i] 7).bind fun t163 => (if out.length < 5864062014805 then (spec_ContentsOf.l0 k (out ++ [t163]) rows (rows.length : Int) ((i + 1 : Nat) : Int)) else (none))) (fun k => ?_) (Ev.bind hz ?_)
      · simp only [spec_ContentsOf.l0]
        rw [if_pos (by omega), if_pos (by omega), if_pos (by omega), hg, ew]
      · refine evp ho ?_
        refine ih (i + 1) _ (by omega) (by omega) ?_
        rw [List.take_succ_eq_append_getElem hlt, List.map_append, ← ht]
        rfl
    · exact ih i out (by omega) hi ht

theorem dHas_ev (s : ByteArray) (c : Int) (hs : s.size ≤ 140737488351232) : ∀ (d i : Nat), s.size - i ≤ d → i ≤ s.size → ∃ b, Ev (fun k => spec_dHas.l0 k s c (i : Int)) b := by
  intro d
  induction d with
  | zero =>
    intro i hd hi
    exact ⟨false, Ev.step (f := fun _ => some false) (fun k => by simp only [spec_dHas.l0]; rw [if_neg (by omega)]) (Ev.now _)⟩
  | succ d ih =>
    intro i hd hi
    by_cases hlt : i < s.size
    · have ew : wrap64 ((i : Int) + 1) = ((i + 1 : Nat) : Int) := by rw [wrap_ok (by omega) (by omega)]; omega
      by_cases hb : bt s (i : Int) = c
      · exact ⟨true, Ev.step (f := fun _ => some true) (fun k => by simp only [spec_dHas.l0]; rw [if_pos (by omega), if_pos (by omega), if_pos hb]) (Ev.now _)⟩
      · obtain ⟨b, h⟩ := ih (i + 1) (by omega) (by omega)
        exact ⟨b, Ev.step (fun k => by simp only [spec_dHas.l0]; rw [if_pos (by omega), if_pos (by omega), if_neg hb, ew]) h⟩
    · exact ih i (by omega) hi

theorem specOf (l : List Int) (hs : (strOfNums l).size ≤ 2000) : ∃ r, Ev (fun k => spec_ContentsOf.f k l) r ∧ (r.2 = true → r.1 = rowsOf (strOfNums l)) := by
  have hj : ∀ b, ∃ r, Ev (fun k => spec_ContentsOf.j0 k [] (strOfNums l) b) r ∧ (r.2 = true → r.1 = rowsOf (strOfNums l)) := by
    intro b
    cases b with
    | true => exact ⟨([], false), Ev.step (f := fun _ => some ([], false)) (fun k => by simp only [spec_ContentsOf.j0, if_true]) (Ev.now _), by simp⟩
    | false =>
      have hz := dSplit_f 10 (strOfNums l) (by omega)
      have hlen : ((sp 10 (strOfNums l).data.toList).map ba).length ≤ 2001 := by
        have := sp_length 10 (strOfNums l).data.toList
        rw [← size_of] at this
        rw [List.length_map]
        omega
      refine ⟨(rowsOf (strOfNums l), true), Ev.step (f := fun k => (spec_dSplit.f k (strOfNums l) 10).bind fun t159 => (spec_ContentsOf.l0 k [] t159 (t159.length : Int) 0)) (fun k => by simp only [spec_ContentsOf.j0]; rw [if_neg (by simp)]) (Ev.bind hz ?_), fun _ => rfl⟩
      refine specLoop_ev _ (fun r hr => ?_) (by omega) _ 0 _ (Nat.le_refl _) (Nat.zero_le _) (by simp)
      obtain ⟨p, hp, rfl⟩ := List.mem_map.1 hr
      have := sp_part 10 _ p hp
      rw [← size_of] at this
      rw [ba_size]
      omega
  by_cases h0 : (strOfNums l).toList = ([] : List UInt8)
  · obtain ⟨r, h1, h2⟩ := hj true
    exact ⟨r, Ev.congr (fun k => by unfold spec_ContentsOf.f; rw [if_pos h0]) h1, h2⟩
  · have hpos : 0 < (strOfNums l).size := by
      rw [size_of]
      rw [Lib.toList_data] at h0
      exact List.length_pos_iff.2 h0
    have ew : wrap64 (((strOfNums l).size : Int) - 1) = ((strOfNums l).size : Int) - 1 := wrap_ok (by omega) (by omega)
    by_cases h1 : bt (strOfNums l) (wrap64 (((strOfNums l).size : Int) - 1)) = 10
    · obtain ⟨r, h2, h3⟩ := hj true
      exact ⟨r, Ev.congr (fun k => by unfold spec_ContentsOf.f; rw [if_neg h0, if_pos (by omega), if_pos (by omega), if_pos h1]) h2, h3⟩
    · obtain ⟨b, hb⟩ := dHas_ev (strOfNums l) 10 (by omega) _ 0 (Nat.le_refl _) (Nat.zero_le _)
      obtain ⟨r, h2, h3⟩ := hj (!b)
      exact ⟨r, Ev.congr (f := fun k => (spec_dHas.f k (strOfNums l) 10).bind fun t158 => (spec_ContentsOf.j0 k [] (strOfNums l) (!t158))) (fun k => by unfold spec_ContentsOf.f; rw [if_neg h0, if_pos (by omega), if_pos (by omega), if_neg h1]) (Ev.bind hb h2), h3⟩

theorem same_ev (a : List ByteArray) (hl : a.length ≤ 140737488351232) : ∀ (d i : Nat), a.length - i ≤ d → i ≤ a.length → Ev (fun k => laws_same_string.l0 k a a (a.length : Int) (i : Int)) true := by
  intro d
  induction d with
  | zero => intro i hd hi; exact Ev.step (f := fun _ => some true) (fun k => by simp only [laws_same_string.l0]; rw [if_neg (by omega)]) (Ev.now _)
  | succ d ih =>
    intro i hd hi
    by_cases hlt : i < a.length
    · have ew : wrap64 ((i : Int) + 1) = ((i + 1 : Nat) : Int) := by rw [wrap_ok (by omega) (by omega)]; omega
      exact Ev.step (fun k => by simp only [laws_same_string.l0]; rw [if_pos (by omega), if_pos (by omega), if_pos (by omega), if_pos (by omega), if_pos trivial, ew]) (ih (i + 1) (by omega) (by omega))
    · exact ih i (by omega) hi

theorem same_f (a : List ByteArray) (hl : a.length ≤ 140737488351232) : Ev (fun k => laws_same_string.f k a a) true :=
  Ev.congr (fun k => by unfold laws_same_string.f; rw [if_pos rfl]; rfl) (same_ev a hl _ 0 (Nat.le_refl _) (Nat.zero_le _))

theorem sameLists_ev (a : List (List ByteArray)) (hl : a.length ≤ 140737488351232) (ha : ∀ x ∈ a, x.length ≤ 140737488351232) : ∀ (d i : Nat), a.length - i ≤ d → i ≤ a.length → Ev (fun k => laws_sameLists_string.l0 k a a (a.length : Int) (i : Int)) true := by
  intro d
  induction d with
  | zero => intro i hd hi; exact Ev.step (f := fun _ => some true) (fun k => by simp only [laws_sameLists_string.l0]; rw [if_neg (by omega)]) (Ev.now _)
  | succ d ih =>
    intro i hd hi
    by_cases hlt : i < a.length
    · have ew : wrap64 ((i : Int) + 1) = ((i + 1 : Nat) : Int) := by rw [wrap_ok (by omega) (by omega)]; omega
      have hg : rd_L1 a (i : Int) = a[i] := by simp [rd_L1, hlt]
      refine Ev.step (f := fun k => (laws_same_string.f k a[i] a[i]).bind fun t105 => (if t105 = true then (laws_sameLists_string.l0 k a a (a.length : Int) ((i + 1 : Nat) : Int)) else (some false))) (fun k => by simp only [laws_sameLists_string.l0]; rw [if_pos (by omega), if_pos (by omega), if_pos (by omega), if_pos (by omega), hg, ew]) (Ev.bind (same_f _ (ha _ (List.getElem_mem hlt))) ?_)
      exact evp rfl (ih (i + 1) (by omega) (by omega))
    · exact ih i (by omega) hi

theorem sameLists_f (a : List (List ByteArray)) (hl : a.length ≤ 140737488351232) (ha : ∀ x ∈ a, x.length ≤ 140737488351232) : Ev (fun k => laws_sameLists_string.f k a a) true :=
  Ev.congr (fun k => by unfold laws_sameLists_string.f; rw [if_pos rfl]; rfl) (sameLists_ev a hl ha _ 0 (Nat.le_refl _) (Nat.zero_le _))

theorem keeps_f : Ev (fun k => laws_keeps.f k) true := by
  have h := ContentsOf_f [97, 7, 98, 10, 99] (by decide) (by decide)
  have e : rowsOf (strOfNums [97, 7, 98, 10, 99]) = [[⟨#[97]⟩, ⟨#[98]⟩], [⟨#[99]⟩]] := by decide
  rw [e] at h
  refine Ev.congr (fun k => rfl) (Ev.bind h (Ev.bind (sameLists_f _ (by decide) (by decide)) (Ev.now _)))

theorem FnExactContentsOf : laws_FnExactContentsOf.Pure := by
  intro l hm hl hw
  refine Ev.rounds ?_
  have hsz : (strOfNums l).size = l.length := by rw [size_of]; simp [strOfNums]
  by_cases h1 : (l.length : Int) > 2147483647
  · exact Ev.congr (fun k => by unfold laws_FnExactContentsOf.f; rw [if_pos h1]) (Ev.now _)
  by_cases h2 : (l.length : Int) > 2000
  · exact Ev.congr (f := fun k => (laws_keeps.f k).bind fun t169 => (some t169)) (fun k => by unfold laws_FnExactContentsOf.f; rw [if_neg h1, if_pos h2]) (Ev.bind keeps_f (Ev.now _))
  obtain ⟨r, hr, hr2⟩ := specOf l (by omega)
  refine Ev.congr (fun k => by unfold laws_FnExactContentsOf.f; rw [if_neg h1, if_neg h2]) (Ev.bind hr ?_)
  by_cases h3 : r.2 = true
  · refine evp h3 ?_
    rw [hr2 h3]
    have hlen := sp_length 10 (strOfNums l).data.toList
    rw [← size_of] at hlen
    refine Ev.bind (ContentsOf_f l (by omega) (by omega)) (Ev.bind (sameLists_f _ (by simp [rowsOf]; omega) (fun x hx => ?_)) ?_)
    · obtain ⟨p, hp, rfl⟩ := List.mem_map.1 hx
      obtain ⟨q, hq, rfl⟩ := List.mem_map.1 hp
      have h4 := sp_part 10 _ q hq
      rw [← size_of] at h4
      have h5 := sp_length 7 (ba q).data.toList
      rw [ba_toList] at h5
      rw [List.length_map, ba_toList]
      omega
    · exact evp rfl (Ev.bind keeps_f (Ev.now _))
  · exact evn h3 (Ev.bind keeps_f (evp rfl (Ev.now _)))

end Go.Proofs.Ytckdpckdabfkbaa.Pure
