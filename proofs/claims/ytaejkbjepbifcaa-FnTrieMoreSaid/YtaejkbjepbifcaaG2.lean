/- The walks over tries and what they compute: part 2 of several, put together by a program. -/
import Derived.Test.YtaejkbjepbifcaaG1
import Derived.Deep.QuietTactic
import Derived.BigQuiet
import Derived.Deep.DeepCutAuto
import Derived.Deep.LoopGhost
import Derived.IntWalk
import Derived.Deep.CutBlock
import Derived.Test.YtaejkbjepbifcaaG0
import Derived.Defers
import Derived.Recover
import Derived.Laws.Pointers
import Derived.Test.YtaejkbjepbifcaaPlain
import Derived.Lib.Strings
namespace Go.Proofs.Ytaejkbjepbifcaa.Da
open Go.RowKit Go.Proofs.YtaejkbjepbifcaaW.PrintWords
set_option linter.unusedVariables false
set_option linter.unusedSimpArgs false
/-- A text without a byte 0. -/
def Cln (t : ByteArray) : Prop := Okw (bs t)
theorem run_lt {s : DA} (h0 : 0 < s.n) : ∀ (w : List Int) (p q : Nat), p < s.n → s.run p w = some q → q < s.n
  | [], p, q, hp, h => by cases h; exact hp
  | c :: w, p, q, hp, h => by
    simp only [DA.run] at h
    cases hs : s.step p c with
    | none => rw [hs] at h; cases h
    | some r =>
      rw [hs] at h
      refine run_lt h0 w r q ?_ h
      unfold DA.step at hs
      split at hs
      · rename_i e
        have e1 := e.1
        cases hs
        omega
      · cases hs
theorem Sk.lt {s : DA} {L : Keys} {w : List Int} {i q : Nat} (k : Sk s L w i q) (h0 : 0 < s.n) : q < s.n := run_lt h0 _ _ _ h0 k.run
theorem bs_get (t : ByteArray) (i : Nat) (h : i < t.size) : (bs t)[i]'(by rw [bs_len]; exact h) = ((t[i]'h).toNat : Int) := by
  simp only [bs, List.getElem_map]
  rfl
theorem bs_at (t : ByteArray) (i : Nat) (h : i < t.size) : (bs t).getD i 0 = ((t[i]'h).toNat : Int) := by
  rw [List.getD_eq_getElem?_getD, List.getElem?_eq_getElem (by rw [bs_len]; exact h)]
  exact bs_get t i h
theorem wrap_nat (b : Nat) (h : b ≤ 4294967296) : IntKind.i64.wrap (b : Int) = (b : Int) := IntWalk.i64_in _ (by omega)
theorem sum_nat (b c r : Nat) (h : b ≤ 4294967296) (hc : c ≤ 4294967296) (e : b + c = r) : IntKind.i64.wrap ((b : Int) + (c : Int)) = (r : Int) := by rw [IntWalk.i64_in _ (by omega)]; omega
/-- What 'search' hands back. -/
def SrcE (s : DA) (L : Keys) (t : ByteArray) (e : Ending) : Prop :=
  ∃ (p q i : Int) (ok : Bool), e = .returned (.tuple #[.int .i64 p, .int .i64 q, .int .i64 i, .bool ok]) ∧ (if ok = true then bs t ≠ [] ∧ ∃ r : Nat, q = (r : Int) ∧ Sk s L (bs t) (bs t).length r else bs t = [] ∨ subw L (bs t) = [])
set_option maxHeartbeats 8000000 in
set_option maxRecDepth 100000 in
theorem search_calls (W : World) (x g : Nat) (s : DA) (L : Keys) (t : ByteArray) (M_ : Mem W x g s) (G_ : Good s 0 L) (C_ : Cln t) (hsz : t.size ≤ 1000000000) (hn : 0 < s.n) :
    Calls Try.prog 61 #[.pointer (some ⟨x, 0, none⟩), .string t] W fun e w' => SrcE s L t e ∧ Drawn0 W w' := by
  have M := Aside0.mk M_
  have G := Aside0.mk G_
  have C := Aside0.mk C_
  have bx := M_.box
  have big := M_.big
  clear M_ G_ C_
  by_cases hz : t.size = 0
  · go_enter Try.func61, Try.ntmps61
    go_wp2_with fail
    exact bodyPost_ret (by simp [results, Try.results61, go_sem]) rfl ⟨⟨0, 0, 0, false, rfl, by simp; left; exact List.length_eq_zero_iff.1 ((bs_len t).trans hz)⟩, Drawn0.refl _⟩
  · have hz2 : ((t.size : Int) == 0) = false := by rw [beq_eq_false_iff_ne]; omega
    go_enter Try.func61, Try.ntmps61
    go_wp2_with fail
    clear hz2
    go_loopg [4, 5, 6, 18] t.size (fun kq v4 v5 v6 v18 w' => ∃ (i q : Nat) (p j : Int), v4 = .int .i64 p ∧ v5 = .int .i64 (q : Int) ∧ v6 = .int .i64 j ∧ v18 = .int .i64 (i : Int) ∧ Aside0 (i + kq = t.size) ∧ Aside0 (Sk s L (bs t) i q) ∧ Drawn0 W w')
    case atStart => exact ⟨0, 0, 0, 0, rfl, rfl, rfl, rfl, ⟨by omega⟩, ⟨Sk.start _ _ _⟩, Drawn0.refl _⟩
    case round =>
      obtain ⟨i, q, p, j, rfl, rfl, rfl, rfl, HI, HS, ⟨m1, rfl⟩⟩ := hrel
      obtain hi := HI.out
      by_cases hlt : i < t.size
      · have hiz : (i : Int) < (t.size : Int) := by omega
        have hil : i < (bs t).length := by rw [bs_len]; exact hlt
        have h3 := (HS.out.told G.out C.out).2.2
        have hq : q < s.n := HS.out.lt hn
        have hcd : (bs t).getD i 0 = ((t[i]'hlt).toNat : Int) := bs_at t i hlt
        have hc0 := C.out _ (List.getElem_mem hil)
        rw [bs_get t i hlt] at hc0
        have hc1 := hc0.1
        have hc2 := hc0.2
        have hcn : (((t[i]'hlt).toNat : Int) == 0) = false := by rw [beq_eq_false_iff_ne]; omega
        have hi32 := M.out.i32 q hq
        obtain ⟨b, hb⟩ : ∃ b : Nat, s.B q = (b : Int) := ⟨(s.B q).toNat, by omega⟩
        have cb : W.cell? ⟨g, q * 2, none⟩ = some (.int .i32 (b : Int)) := (M.out.base q hq).trans (by rw [hb])
        obtain ⟨r, hr⟩ : ∃ r : Nat, b + (t[i]'hlt).toNat = r := ⟨_, rfl⟩
        have HR : Aside0 (s.B q + (bs t).getD i 0 = (r : Int)) := ⟨by omega⟩
        have hqz : (q : Int) < (s.n : Int) := by omega
        have hr0 : 0 ≤ (r : Int) := by omega
        have hsum := sum_nat b (t[i]'hlt).toNat r (by omega) (by omega) hr
        have hbw := wrap_nat b (by omega)
        clear hc0 hb hcd h3 hi32
        go_upto_region 8 with fail
        have hw := hsum
        have hwb := hbw
        clear hsum hbw
        go_quiet (fail)
        clear hw hwb
        by_cases hrn : r < s.n
        · have hrz : (r : Int) < (s.n : Int) := by omega
          have cr := M.out.chk r hrn
          obtain ⟨cv, hcv⟩ : ∃ cv, s.C r = cv := ⟨_, rfl⟩
          rw [hcv] at cr
          have hb3 := M.out.i32 r hrn
          rw [hcv] at hb3
          have hb4 := hb3.2.2.1
          have hb5 := hb3.2.2.2
          clear hb3
          have HCV := Aside0.mk hcv
          clear hcv
          by_cases hcq : cv = (q : Int)
          · have HC2 := Aside0.mk hcq
            subst hcq
            cases gk with
            | zero => omega
            | succ kz =>
            have hst : s.step q ((bs t).getD i 0) = some r := by
              have := step_on (s := s) (q := q) (c := (bs t).getD i 0) (by rw [HR.out]; exact hrz) (by rw [HR.out, Int.toNat_natCast]; exact HCV.out)
              rw [this, HR.out, Int.toNat_natCast]
            have HS2 := Aside0.mk (HS.out.go hil hst)
            clear hst
            go_wp2_with fail
            go_roundg kz
            case measure => omega
            case rel => exact ⟨i + 1, r, (q : Int), (i : Int), rfl, rfl, rfl, congrArg (Value.int .i64) (by omega), ⟨by omega⟩, HS2, (Drawn0.refl _).step _⟩
          · have hst : s.step q ((bs t).getD i 0) = none := step_off (by rw [HR.out, Int.toNat_natCast, HCV.out]; exact hcq)
            have HX := Aside0.mk (none_on (HS.out.stop G.out C.out hil hst) (show i + 1 ≤ (bs t).length by omega))
            clear hst
            have hcq2 : (cv == (q : Int)) = false := by rw [beq_eq_false_iff_ne]; exact hcq
            have hcq3 : (cv != (q : Int)) = true := by rw [bne, hcq2]; rfl
            go_wp2_with fail
            exact bodyPost_ret (v := .tuple #[.int .i64 (q : Int), .int .i64 (r : Int), .int .i64 (i : Int), .bool false]) (by simp [results, Try.results61, go_sem]) rfl ⟨⟨_, _, _, false, rfl, by simp; right; simpa using HX.out⟩, (Drawn0.refl _).step _⟩
        · have hrz : ¬ (r : Int) < (s.n : Int) := by omega
          have hst : s.step q ((bs t).getD i 0) = none := step_far (by rw [HR.out]; omega)
          have HX := Aside0.mk (none_on (HS.out.stop G.out C.out hil hst) (show i + 1 ≤ (bs t).length by omega))
          clear hst
          go_wp2_with fail
          exact bodyPost_ret (v := .tuple #[.int .i64 (q : Int), .int .i64 (r : Int), .int .i64 (i : Int), .bool false]) (by simp [results, Try.results61, go_sem]) rfl ⟨⟨_, _, _, false, rfl, by simp; right; simpa using HX.out⟩, (Drawn0.refl _).step _⟩
      · have hiz : ¬ (i : Int) < (t.size : Int) := by omega
        obtain rfl : i = t.size := by omega
        go_wp2_with fail
        exact bodyPost_ret (v := .tuple #[.int .i64 p, .int .i64 (q : Int), .int .i64 j, .bool true]) (by simp [results, Try.results61, go_sem]) rfl ⟨⟨_, _, _, true, rfl, by simp; exact ⟨fun e => by have := bs_len t; rw [e] at this; simp at this; omega, q, rfl, by rw [bs_len]; exact HS.out⟩⟩, (Drawn0.refl _).step _⟩
/-- The array by value, put into a box. -/
theorem mem_box {W : World} {g : Nat} {s : DA} (a : Arr W g s) : Mem (W.alloc (.cells #[.slice (some ⟨g, 0, none⟩) s.n s.n] 62)) W.heap.size g s :=
  ⟨a.step ((below_alloc (Below.refl _ _) _).block _ a.lt), blk_new W _, by have := a.lt; omega⟩
/-- What 'Find' finds: the beginning of a key that is no key counts as found, with 0. -/
def fnd (L : Keys) (t : ByteArray) : Int × Bool := ((found L (bs t)).getD 0, !(bs t).isEmpty && !(subw L (bs t)).isEmpty)
/-- What 'Find' hands back. -/
def FndE (L : Keys) (t : ByteArray) (e : Ending) : Prop := e = .returned (.tuple #[.int .i64 (fnd L t).1, .bool (fnd L t).2])
theorem fnd_not {L : Keys} {t : ByteArray} (h : bs t = [] ∨ subw L (bs t) = []) : FndE L t (.returned (.tuple #[.int .i64 0, .bool false])) := by
  have e : fnd L t = (0, false) := by
    unfold fnd found
    rcases h with h | h
    · simp [h]
    · split
      · rename_i e; simp [e]
      · simp [h, here]
  unfold FndE; rw [e]
theorem fnd_half {L : Keys} {t : ByteArray} (h1 : bs t ≠ [] ∧ subw L (bs t) ≠ []) (h : found L (bs t) = none) : FndE L t (.returned (.tuple #[.int .i64 0, .bool true])) := by
  have e : fnd L t = (0, true) := by
    unfold fnd
    rw [h]
    simp [h1.1, h1.2]
  unfold FndE; rw [e]
theorem fnd_some {L : Keys} {t : ByteArray} {v : Int} (h1 : bs t ≠ [] ∧ subw L (bs t) ≠ []) (h : found L (bs t) = some v) : FndE L t (.returned (.tuple #[.int .i64 v, .bool true])) := by
  have e : fnd L t = (v, true) := by
    unfold fnd
    rw [h]
    simp [h1.1, h1.2]
  unfold FndE; rw [e]
theorem search_yes (W : World) (x g r : Nat) (s : DA) (L : Keys) (t : ByteArray) (M : Mem W x g s) (G : Good s 0 L) (C : Cln t) (hsz : t.size ≤ 1000000000) (hn : 0 < s.n) (k : Sk s L (bs t) (bs t).length r) (h0 : bs t ≠ []) :
    Calls Try.prog 61 #[.pointer (some ⟨x, 0, none⟩), .string t] W fun e w' => (∃ p i : Int, e = .returned (.tuple #[.int .i64 p, .int .i64 (r : Int), .int .i64 i, .bool true])) ∧ Drawn0 W w' := by
  refine (search_calls W x g s L t M G C hsz hn).mono ?_
  rintro e w' ⟨⟨p, q, i, ok, rfl, h⟩, hD⟩
  have ht := k.told G C
  cases ok with
  | false =>
    rw [if_neg (by simp)] at h
    rcases h with h | h
    · exact absurd h h0
    · rw [List.take_length] at ht; exact absurd h ht.1
  | true =>
    rw [if_pos rfl] at h
    obtain ⟨_, r', rfl, k'⟩ := h
    have : r' = r := by have h1 := k'.run; rw [k.run] at h1; exact (Option.some.inj h1).symm
    subst this
    exact ⟨⟨p, i, rfl⟩, hD⟩
theorem search_no (W : World) (x g : Nat) (s : DA) (L : Keys) (t : ByteArray) (M : Mem W x g s) (G : Good s 0 L) (C : Cln t) (hsz : t.size ≤ 1000000000) (hn : 0 < s.n) (h0 : bs t = [] ∨ subw L (bs t) = []) :
    Calls Try.prog 61 #[.pointer (some ⟨x, 0, none⟩), .string t] W fun e w' => (∃ p q i : Int, e = .returned (.tuple #[.int .i64 p, .int .i64 q, .int .i64 i, .bool false])) ∧ Drawn0 W w' := by
  refine (search_calls W x g s L t M G C hsz hn).mono ?_
  rintro e w' ⟨⟨p, q, i, ok, rfl, h⟩, hD⟩
  cases ok with
  | false => exact ⟨⟨p, q, i, rfl⟩, hD⟩
  | true =>
    rw [if_pos rfl] at h
    obtain ⟨hne, r', rfl, k'⟩ := h
    rcases h0 with h | h
    · exact absurd h hne
    · have := (k'.told G C).1
      rw [List.take_length] at this
      exact absurd h this
theorem mem_drewN {W : World} {x g : Nat} {s : DA} (m : Mem W x g s) (q : Nat) : Mem (W.drewN q) x g s := m.drewN q
set_option maxHeartbeats 8000000 in
set_option maxRecDepth 100000 in
theorem find_calls (W : World) (g : Nat) (s : DA) (L : Keys) (t : ByteArray) (M_ : Arr W g s) (G_ : Good s 0 L) (C_ : Cln t) (hsz : t.size ≤ 1000000000) (hn : 0 < s.n) :
    Calls Try.prog 44 #[.slice (some ⟨g, 0, none⟩) s.n s.n, .string t] W fun e w' => FndE L t e ∧ Below W.heap.size W w' := by
  have MB := mem_box M_
  have bx := MB.box
  have big := MB.big
  have hB : Aside0 (Below W.heap.size W (W.alloc (.cells #[.slice (some ⟨g, 0, none⟩) s.n s.n] 62))) := ⟨below_alloc (Below.refl _ _) _⟩
  by_cases hyes : bs t ≠ [] ∧ ∃ r, Sk s L (bs t) (bs t).length r
  · obtain ⟨h0, r, k⟩ := hyes
    have HS := Aside0.mk (search_yes _ W.heap.size g r s L t MB G_ C_ hsz hn k h0)
    have ht := k.told G_ C_
    have hrn := k.lt hn
    rw [List.take_length] at ht
    have HF : Aside0 (found L (bs t) = s.term r) := ⟨by unfold found; rw [if_neg h0]; exact ht.2.1.symm⟩
    have HNE : Aside0 (bs t ≠ [] ∧ subw L (bs t) ≠ []) := ⟨⟨h0, ht.1⟩⟩
    have hi32 := MB.i32 r hrn
    obtain ⟨b, hb⟩ : ∃ b : Nat, s.B r = (b : Int) := ⟨(s.B r).toNat, by omega⟩
    have cb : (W.alloc (.cells #[.slice (some ⟨g, 0, none⟩) s.n s.n] 62)).cell? ⟨g, r * 2, none⟩ = some (.int .i32 (b : Int)) := (MB.base r hrn).trans (by rw [hb])
    have hb1 : b ≤ 2147483647 := by omega
    have hrz : (r : Int) < (s.n : Int) := by omega
    have HB := Aside0.mk hb
    have M := Aside0.mk MB
    clear MB G_ C_ M_ ht hi32 hb k h0
    by_cases hbn : b < s.n
    · have hbz : (b : Int) < (s.n : Int) := by omega
      have cc := M.out.chk b hbn
      have c0 := M.out.base b hbn
      have hi := M.out.i32 b hbn
      obtain ⟨cv, hcv⟩ : ∃ cv, s.C b = cv := ⟨_, rfl⟩
      obtain ⟨dv, hdv⟩ : ∃ dv, s.B b = dv := ⟨_, rfl⟩
      rw [hcv] at cc hi
      rw [hdv] at c0 hi
      obtain ⟨i1, i2, i3, i4⟩ := hi
      have HC := Aside0.mk hcv
      have HD := Aside0.mk hdv
      clear hcv hdv
      have ht1 : s.term r = if cv = (r : Int) ∧ dv ≤ 0 then some (-dv) else none := by
        by_cases e1 : cv = (r : Int)
        · by_cases e2 : dv ≤ 0
          · rw [if_pos ⟨e1, e2⟩, term_on (by rw [HB.out]; exact hbz) (by rw [HB.out, Int.toNat_natCast, HC.out]; exact e1) (by rw [HB.out, Int.toNat_natCast, HD.out]; exact e2), HB.out, Int.toNat_natCast, HD.out]
          · rw [if_neg (fun e => e2 e.2), term_no (by rw [HB.out, Int.toNat_natCast, HD.out]; omega)]
        · rw [if_neg (fun e => e1 e.1), term_off (by rw [HB.out, Int.toNat_natCast, HC.out]; exact e1)]
      rw [ht1] at HF
      clear ht1
      by_cases hcq : cv = (r : Int)
      · subst hcq
        by_cases hd : dv ≤ 0
        · rw [if_pos ⟨rfl, hd⟩] at HF
          have hdz : ¬ dv > 0 := by omega
          go_enter Try.func44, Try.ntmps44
          go_wp2_with (go_at_call 61; refine HS.out.mono ?_; rintro e_ w2 ⟨⟨p, i, rfl⟩, ⟨m1, rfl⟩⟩)
          exact bodyPost_ret (v := .tuple #[.int .i64 (-dv), .bool true]) (by simp [results, Try.results44, go_sem]) rfl ⟨fnd_some HNE.out HF.out, pw_below_drewN hB.out _⟩
        · rw [if_neg (fun e => hd e.2)] at HF
          have hdz : dv > 0 := by omega
          go_enter Try.func44, Try.ntmps44
          go_wp2_with (go_at_call 61; refine HS.out.mono ?_; rintro e_ w2 ⟨⟨p, i, rfl⟩, ⟨m1, rfl⟩⟩)
          exact bodyPost_ret (v := .tuple #[.int .i64 0, .bool true]) (by simp [results, Try.results44, go_sem]) rfl ⟨fnd_half HNE.out HF.out, pw_below_drewN hB.out _⟩
      · rw [if_neg (fun e => hcq e.1)] at HF
        have hcq2 : (cv == (r : Int)) = false := by rw [beq_eq_false_iff_ne]; exact hcq
        have hcq3 : (cv != (r : Int)) = true := by rw [bne, hcq2]; rfl
        go_enter Try.func44, Try.ntmps44
        go_wp2_with (go_at_call 61; refine HS.out.mono ?_; rintro e_ w2 ⟨⟨p, i, rfl⟩, ⟨m1, rfl⟩⟩)
        exact bodyPost_ret (v := .tuple #[.int .i64 0, .bool true]) (by simp [results, Try.results44, go_sem]) rfl ⟨fnd_half HNE.out HF.out, pw_below_drewN hB.out _⟩
    · have hbz : ¬ (b : Int) < (s.n : Int) := by omega
      rw [term_far (by rw [HB.out]; omega)] at HF
      go_enter Try.func44, Try.ntmps44
      go_wp2_with (go_at_call 61; refine HS.out.mono ?_; rintro e_ w2 ⟨⟨p, i, rfl⟩, ⟨m1, rfl⟩⟩)
      exact bodyPost_ret (v := .tuple #[.int .i64 0, .bool true]) (by simp [results, Try.results44, go_sem]) rfl ⟨fnd_half HNE.out HF.out, pw_below_drewN hB.out _⟩
  · have hno : bs t = [] ∨ subw L (bs t) = [] := by
      by_cases h0 : bs t = []
      · exact Or.inl h0
      · right
        have h := G_ (bs t) C_
        unfold Told at h
        cases hr : s.run 0 (bs t) with
        | none => rw [hr] at h; exact h
        | some r => exact absurd ⟨h0, r, ⟨by rw [List.take_length]; exact hr, Nat.le_refl _⟩⟩ hyes
    have HS := Aside0.mk (search_no _ W.heap.size g s L t MB G_ C_ hsz hn hno)
    have HF := Aside0.mk hno
    clear hno hyes MB G_ C_ M_
    go_enter Try.func44, Try.ntmps44
    go_wp2_with (go_at_call 61; refine HS.out.mono ?_; rintro e_ w2 ⟨⟨p, q, i, rfl⟩, ⟨m1, rfl⟩⟩)
    exact bodyPost_ret (v := .tuple #[.int .i64 0, .bool false]) (by simp [results, Try.results44, go_sem]) rfl ⟨fnd_not HF.out, pw_below_drewN hB.out _⟩
end Go.Proofs.Ytaejkbjepbifcaa.Da
namespace Go.Proofs.Ytaejkbjepbifcaa.Da
open Go.RowKit Go.Proofs.YtaejkbjepbifcaaW.PrintWords
set_option linter.unusedVariables false
set_option linter.unusedSimpArgs false
/-- The last key that begins a text. -/
def lastHit (L : Keys) (w : List Int) (i : Nat) : Option Int := ((hitsTo L w i).getLast?).map (·.1)
theorem last_none {L : Keys} {w : List Int} {i : Nat} (h : hitAt L w i = none) : lastHit L w (i + 1) = lastHit L w i := by unfold lastHit; rw [hits_none h]
theorem last_some {L : Keys} {w : List Int} {i : Nat} {v : Int} (h : hitAt L w i = some v) : lastHit L w (i + 1) = some v := by unfold lastHit; rw [hits_some h]; simp
def lng (L : Keys) (t : ByteArray) : Int × Bool := ((lastHit L (bs t) (bs t).length).getD 0, (lastHit L (bs t) (bs t).length).isSome)
def LngE (L : Keys) (t : ByteArray) (e : Ending) : Prop := e = .returned (.tuple #[.int .i64 (lng L t).1, .bool (lng L t).2])
theorem lng_stop {L : Keys} {t : ByteArray} {i : Nat} {id : Int} {ok : Bool} (h : subw L ((bs t).take (i + 1)) = []) (hi : i ≤ (bs t).length) (e1 : id = (lastHit L (bs t) i).getD 0) (e2 : ok = (lastHit L (bs t) i).isSome) : LngE L t (.returned (.tuple #[.int .i64 id, .bool ok])) := by
  unfold LngE lng
  have : lastHit L (bs t) (bs t).length = lastHit L (bs t) i := by unfold lastHit; rw [hits_stop h hi]
  rw [this, e1, e2]
set_option maxHeartbeats 16000000 in
set_option maxRecDepth 100000 in
theorem prefix_calls (W : World) (g : Nat) (s : DA) (L : Keys) (t : ByteArray) (M_ : Arr W g s) (G_ : Good s 0 L) (C_ : Cln t) (hsz : t.size ≤ 1000000000) (hn : 0 < s.n) :
    Calls Try.prog 45 #[.slice (some ⟨g, 0, none⟩) s.n s.n, .string t] W fun e w' => LngE L t e ∧ Below W.heap.size W w' := by
  have HA0 := Aside0.mk M_
  have G := Aside0.mk G_
  have C := Aside0.mk C_
  have big := M_.big
  have HB0 := Aside0.mk (Below.refl W.heap.size W)
  clear M_ G_ C_
  go_enter Try.func45, Try.ntmps45
  go_wp2_with fail
  go_loopg [4, 5, 6, 7, 8] t.size (fun kq v4 v5 v6 v7 v8 w' => ∃ (i q : Nat) (p id : Int) (ok : Bool), v4 = .int .i64 id ∧ v5 = .bool ok ∧ v6 = .int .i64 p ∧ v7 = .int .i64 (q : Int) ∧ v8 = .int .i64 (i : Int) ∧ Aside0 (i + kq = t.size) ∧ Aside0 (Sk s L (bs t) i q) ∧ Aside0 (id = (lastHit L (bs t) i).getD 0 ∧ ok = (lastHit L (bs t) i).isSome) ∧ Aside0 (Below W.heap.size W w'))
  case atStart => exact ⟨0, 0, 0, 0, false, rfl, rfl, rfl, rfl, rfl, ⟨by omega⟩, ⟨Sk.start _ _ _⟩, ⟨rfl, rfl⟩, HB0⟩
  case round =>
    clear HB0
    obtain ⟨i, q, p, id, ok, rfl, rfl, rfl, rfl, rfl, HI, HS, HV, HB⟩ := hrel
    have HA : Aside0 (Arr wr g s) := ⟨HA0.out.step (HB.out.block g HA0.out.lt)⟩
    have hi := HI.out
    by_cases hlt : i < t.size
    · have hiz : (i : Int) < (t.size : Int) := by omega
      have hil : i < (bs t).length := by rw [bs_len]; exact hlt
      have h3 := (HS.out.told G.out C.out).2.2
      have hq : q < s.n := HS.out.lt hn
      have hcd : (bs t).getD i 0 = ((t[i]'hlt).toNat : Int) := bs_at t i hlt
      have hc0 := C.out _ (List.getElem_mem hil)
      rw [bs_get t i hlt] at hc0
      have hc1 := hc0.1
      have hc2 := hc0.2
      have hcn : (((t[i]'hlt).toNat : Int) == 0) = false := by rw [beq_eq_false_iff_ne]; omega
      have hi32 := HA.out.i32 q hq
      obtain ⟨b, hb⟩ : ∃ b : Nat, s.B q = (b : Int) := ⟨(s.B q).toNat, by omega⟩
      have cb : wr.cell? ⟨g, q * 2, none⟩ = some (.int .i32 (b : Int)) := (HA.out.base q hq).trans (by rw [hb])
      obtain ⟨r, hr⟩ : ∃ r : Nat, b + (t[i]'hlt).toNat = r := ⟨_, rfl⟩
      have HR : Aside0 (s.B q + (bs t).getD i 0 = (r : Int)) := ⟨by omega⟩
      have hqz : (q : Int) < (s.n : Int) := by omega
      have hr0 : 0 ≤ (r : Int) := by omega
      have hsum := sum_nat b (t[i]'hlt).toNat r (by omega) (by omega) hr
      have hbw := wrap_nat b (by omega)
      clear hc0 hb hcd h3 hi32
      go_upto_region 8 with fail
      have hw := hsum
      have hwb := hbw
      clear hsum hbw
      go_quiet (fail)
      clear hw hwb
      by_cases hrn : r < s.n
      · have hrz : (r : Int) < (s.n : Int) := by omega
        have cr : wr.cell? ⟨g, r * 2 + 1, none⟩ = _ := HA.out.chk r hrn
        obtain ⟨cv, hcv⟩ : ∃ cv, s.C r = cv := ⟨_, rfl⟩
        rw [hcv] at cr
        have hb3 := HA.out.i32 r hrn
        rw [hcv] at hb3
        have hb4 := hb3.2.2.1
        have hb5 := hb3.2.2.2
        clear hb3
        have HCV := Aside0.mk hcv
        clear hcv
        by_cases hcq : cv = (q : Int)
        · have HC2 := Aside0.mk hcq
          subst hcq
          have hst : s.step q ((bs t).getD i 0) = some r := by
            have := step_on (s := s) (q := q) (c := (bs t).getD i 0) (by rw [HR.out]; exact hrz) (by rw [HR.out, Int.toNat_natCast]; exact HCV.out)
            rw [this, HR.out, Int.toNat_natCast]
          have HS2 := Aside0.mk (HS.out.go hil hst)
          clear hst
          have h3 := (HS2.out.told G.out C.out).2.2
          have hi32 := HA.out.i32 r hrn
          obtain ⟨b2, hb2⟩ : ∃ b2 : Nat, s.B r = (b2 : Int) := ⟨(s.B r).toNat, by omega⟩
          have cb2 : wr.cell? ⟨g, r * 2, none⟩ = some (.int .i32 (b2 : Int)) := (HA.out.base r hrn).trans (by rw [hb2])
          have hb2n : b2 ≤ 2147483647 := by omega
          have HB2 := Aside0.mk hb2
          have HH : Aside0 (hitAt L (bs t) i = s.term r) := ⟨HS2.out.hit G.out C.out⟩
          clear h3 hi32 hb2
          cases gk with
          | zero => omega
          | succ kz =>
          by_cases hbn : b2 < s.n
          · have hbz : (b2 : Int) < (s.n : Int) := by omega
            have cc : wr.cell? ⟨g, b2 * 2 + 1, none⟩ = _ := HA.out.chk b2 hbn
            have cdv : wr.cell? ⟨g, b2 * 2, none⟩ = _ := HA.out.base b2 hbn
            have hi2 := HA.out.i32 b2 hbn
            obtain ⟨cw, hcw⟩ : ∃ cw, s.C b2 = cw := ⟨_, rfl⟩
            obtain ⟨dv, hdv⟩ : ∃ dv, s.B b2 = dv := ⟨_, rfl⟩
            rw [hcw] at cc hi2
            rw [hdv] at cdv hi2
            obtain ⟨i1, i2, i3, i4⟩ := hi2
            have ht1 : s.term r = if cw = (r : Int) ∧ dv ≤ 0 then some (-dv) else none := by
              by_cases e1 : cw = (r : Int)
              · by_cases e2 : dv ≤ 0
                · rw [if_pos ⟨e1, e2⟩, term_on (by rw [HB2.out]; exact hbz) (by rw [HB2.out, Int.toNat_natCast, hcw]; exact e1) (by rw [HB2.out, Int.toNat_natCast, hdv]; exact e2), HB2.out, Int.toNat_natCast, hdv]
                · rw [if_neg (fun e => e2 e.2), term_no (by rw [HB2.out, Int.toNat_natCast, hdv]; omega)]
              · rw [if_neg (fun e => e1 e.1), term_off (by rw [HB2.out, Int.toNat_natCast, hcw]; exact e1)]
            rw [ht1] at HH
            clear ht1 hcw hdv
            by_cases hcq2 : cw = (r : Int)
            · subst hcq2
              by_cases hd : dv ≤ 0
              · rw [if_pos ⟨rfl, hd⟩] at HH
                go_wp2_with fail
                go_roundg kz
                case measure => omega
                case rel => exact ⟨i + 1, r, (q : Int), -dv, true, rfl, rfl, rfl, rfl, congrArg (Value.int .i64) (by omega), ⟨by omega⟩, HS2, ⟨by rw [last_some HH.out]; exact ⟨rfl, rfl⟩⟩, ⟨pw_below_drewN HB.out _⟩⟩
              · rw [if_neg (fun e => hd e.2)] at HH
                have hdz : dv > 0 := by omega
                go_wp2_with fail
                go_roundg kz
                case measure => omega
                case rel => exact ⟨i + 1, r, (q : Int), id, ok, rfl, rfl, rfl, rfl, congrArg (Value.int .i64) (by omega), ⟨by omega⟩, HS2, ⟨by rw [last_none HH.out]; exact HV.out⟩, ⟨pw_below_drewN HB.out _⟩⟩
            · rw [if_neg (fun e => hcq2 e.1)] at HH
              have hcq3 : (cw == (r : Int)) = false := by rw [beq_eq_false_iff_ne]; exact hcq2
              go_wp2_with fail
              go_roundg kz
              case measure => omega
              case rel => exact ⟨i + 1, r, (q : Int), id, ok, rfl, rfl, rfl, rfl, congrArg (Value.int .i64) (by omega), ⟨by omega⟩, HS2, ⟨by rw [last_none HH.out]; exact HV.out⟩, ⟨pw_below_drewN HB.out _⟩⟩
          · have hbz : ¬ (b2 : Int) < (s.n : Int) := by omega
            rw [term_far (by rw [HB2.out]; omega)] at HH
            go_wp2_with fail
            go_roundg kz
            case measure => omega
            case rel => exact ⟨i + 1, r, (q : Int), id, ok, rfl, rfl, rfl, rfl, congrArg (Value.int .i64) (by omega), ⟨by omega⟩, HS2, ⟨by rw [last_none HH.out]; exact HV.out⟩, ⟨pw_below_drewN HB.out _⟩⟩
        · have hst : s.step q ((bs t).getD i 0) = none := step_off (by rw [HR.out, Int.toNat_natCast, HCV.out]; exact hcq)
          have HX := Aside0.mk (HS.out.stop G.out C.out hil hst)
          clear hst
          have hcq2 : (cv == (q : Int)) = false := by rw [beq_eq_false_iff_ne]; exact hcq
          have hcq3 : (cv != (q : Int)) = true := by rw [bne, hcq2]; rfl
          go_wp2_with fail
          exact bodyPost_ret (v := .tuple #[.int .i64 id, .bool ok]) (by simp [results, Try.results45, go_sem]) rfl ⟨lng_stop HX.out (by omega) HV.out.1 HV.out.2, pw_below_drewN HB.out _⟩
      · have hrz : ¬ (r : Int) < (s.n : Int) := by omega
        have hst : s.step q ((bs t).getD i 0) = none := step_far (by rw [HR.out]; omega)
        have HX := Aside0.mk (HS.out.stop G.out C.out hil hst)
        clear hst
        go_wp2_with fail
        exact bodyPost_ret (v := .tuple #[.int .i64 id, .bool ok]) (by simp [results, Try.results45, go_sem]) rfl ⟨lng_stop HX.out (by omega) HV.out.1 HV.out.2, pw_below_drewN HB.out _⟩
    · have hiz : ¬ (i : Int) < (t.size : Int) := by omega
      obtain rfl : i = t.size := by omega
      go_wp2_with fail
      exact bodyPost_ret (v := .tuple #[.int .i64 id, .bool ok]) (by simp [results, Try.results45, go_sem]) rfl ⟨by unfold LngE lng; rw [bs_len]; rw [HV.out.1, HV.out.2], HB.out⟩
end Go.Proofs.Ytaejkbjepbifcaa.Da
namespace Go.Proofs.Ytaejkbjepbifcaa.Da
open Go.RowKit Go.Proofs.YtaejkbjepbifcaaW.PrintWords
set_option linter.unusedVariables false
set_option linter.unusedSimpArgs false
def CpsE (W w' : World) (L : Keys) (t : ByteArray) (e : Ending) : Prop := ∃ v1 v2 : Value, e = .returned (.tuple #[v1, v2]) ∧
  Kd.R (Kd.int .i64) 3 w' W.heap.size (fun k_ => some k_ ≠ v2.ownBlock) v1 ((hitsTo L (bs t) (bs t).length).map (·.1)) ∧ Kd.R (Kd.int .i64) 3 w' W.heap.size (fun k_ => some k_ ≠ v1.ownBlock) v2 ((hitsTo L (bs t) (bs t).length).map (·.2)) ∧ Below W.heap.size W w'
set_option maxHeartbeats 16000000 in
set_option maxRecDepth 100000 in
theorem cps_calls (W : World) (g : Nat) (s : DA) (L : Keys) (t : ByteArray) (M_ : Arr W g s) (G_ : Good s 0 L) (C_ : Cln t) (hsz : t.size ≤ 1000000000) (hn : 0 < s.n) :
    Calls Try.prog 47 #[.slice (some ⟨g, 0, none⟩) s.n s.n, .string t] W fun e w' => CpsE W w' L t e := by
  have HA0 := Aside0.mk M_
  have G := Aside0.mk G_
  have C := Aside0.mk C_
  have big := M_.big
  have HB0 := Aside0.mk (Below.refl W.heap.size W)
  clear M_ G_ C_
  go_enter Try.func47, Try.ntmps47
  go_wp2_with fail
  go_loopg [4, 5, 6, 7, 9] t.size (fun kq v4 v5 v6 v7 v9 w' => ∃ (i q : Nat) (p : Int) (x4 x5 : List Int), v6 = .int .i64 p ∧ v7 = .int .i64 (q : Int) ∧ v9 = .int .i64 (i : Int) ∧ Aside0 (i + kq = t.size) ∧ Aside0 (Sk s L (bs t) i q) ∧ Aside0 (x4 = (hitsTo L (bs t) i).map (·.1) ∧ x5 = (hitsTo L (bs t) i).map (·.2)) ∧ Aside0 (Kd.R (Kd.int .i64) 3 w' W.heap.size (fun k_ => some k_ ≠ v5.ownBlock) v4 x4) ∧ Aside0 (Kd.R (Kd.int .i64) 3 w' W.heap.size (fun k_ => some k_ ≠ v4.ownBlock) v5 x5) ∧ Aside0 (Below W.heap.size W w'))
  case atStart => exact ⟨0, 0, 0, [], [], rfl, rfl, rfl, ⟨by omega⟩, ⟨Sk.start _ _ _⟩, ⟨rfl, rfl⟩, ⟨Kd.R_nil _ _ _ _ _⟩, ⟨Kd.R_nil _ _ _ _ _⟩, HB0⟩
  case round =>
    clear HB0
    obtain ⟨i, q, p, x4, x5, rfl, rfl, rfl, HI, HS, HV, HO4, HO5, HB⟩ := hrel
    have hx4 : x4.length ≤ i := by rw [HV.out.1, List.length_map]; exact hits_len _ _ _
    have hx5 : x5.length ≤ i := by rw [HV.out.2, List.length_map]; exact hits_len _ _ _
    have HA : Aside0 (Arr wr g s) := ⟨HA0.out.step (HB.out.block g HA0.out.lt)⟩
    have hi := HI.out
    by_cases hlt : i < t.size
    · have hiz : (i : Int) < (t.size : Int) := by omega
      have hil : i < (bs t).length := by rw [bs_len]; exact hlt
      have h3 := (HS.out.told G.out C.out).2.2
      have hq : q < s.n := HS.out.lt hn
      have hcd : (bs t).getD i 0 = ((t[i]'hlt).toNat : Int) := bs_at t i hlt
      have hc0 := C.out _ (List.getElem_mem hil)
      rw [bs_get t i hlt] at hc0
      have hc1 := hc0.1
      have hc2 := hc0.2
      have hcn : (((t[i]'hlt).toNat : Int) == 0) = false := by rw [beq_eq_false_iff_ne]; omega
      have hi32 := HA.out.i32 q hq
      obtain ⟨b, hb⟩ : ∃ b : Nat, s.B q = (b : Int) := ⟨(s.B q).toNat, by omega⟩
      have cb : wr.cell? ⟨g, q * 2, none⟩ = some (.int .i32 (b : Int)) := (HA.out.base q hq).trans (by rw [hb])
      obtain ⟨r, hr⟩ : ∃ r : Nat, b + (t[i]'hlt).toNat = r := ⟨_, rfl⟩
      have HR : Aside0 (s.B q + (bs t).getD i 0 = (r : Int)) := ⟨by omega⟩
      have hqz : (q : Int) < (s.n : Int) := by omega
      have hr0 : 0 ≤ (r : Int) := by omega
      have hsum := sum_nat b (t[i]'hlt).toNat r (by omega) (by omega) hr
      have hbw := wrap_nat b (by omega)
      clear hc0 hb hcd h3 hi32
      go_upto_region 8 with fail
      have hw := hsum
      have hwb := hbw
      clear hsum hbw
      go_quiet (fail)
      clear hw hwb
      by_cases hrn : r < s.n
      · have hrz : (r : Int) < (s.n : Int) := by omega
        have cr : wr.cell? ⟨g, r * 2 + 1, none⟩ = _ := HA.out.chk r hrn
        obtain ⟨cv, hcv⟩ : ∃ cv, s.C r = cv := ⟨_, rfl⟩
        rw [hcv] at cr
        have hb3 := HA.out.i32 r hrn
        rw [hcv] at hb3
        have hb4 := hb3.2.2.1
        have hb5 := hb3.2.2.2
        clear hb3
        have HCV := Aside0.mk hcv
        clear hcv
        by_cases hcq : cv = (q : Int)
        · have HC2 := Aside0.mk hcq
          subst hcq
          have hst : s.step q ((bs t).getD i 0) = some r := by
            have := step_on (s := s) (q := q) (c := (bs t).getD i 0) (by rw [HR.out]; exact hrz) (by rw [HR.out, Int.toNat_natCast]; exact HCV.out)
            rw [this, HR.out, Int.toNat_natCast]
          have HS2 := Aside0.mk (HS.out.go hil hst)
          clear hst
          have h3 := (HS2.out.told G.out C.out).2.2
          have hi32 := HA.out.i32 r hrn
          obtain ⟨b2, hb2⟩ : ∃ b2 : Nat, s.B r = (b2 : Int) := ⟨(s.B r).toNat, by omega⟩
          have cb2 : wr.cell? ⟨g, r * 2, none⟩ = some (.int .i32 (b2 : Int)) := (HA.out.base r hrn).trans (by rw [hb2])
          have hb2n : b2 ≤ 2147483647 := by omega
          have HB2 := Aside0.mk hb2
          have HH : Aside0 (hitAt L (bs t) i = s.term r) := ⟨HS2.out.hit G.out C.out⟩
          clear h3 hi32 hb2
          cases gk with
          | zero => omega
          | succ kz =>
          by_cases hbn : b2 < s.n
          · have hbz : (b2 : Int) < (s.n : Int) := by omega
            have cc : wr.cell? ⟨g, b2 * 2 + 1, none⟩ = _ := HA.out.chk b2 hbn
            have cdv : wr.cell? ⟨g, b2 * 2, none⟩ = _ := HA.out.base b2 hbn
            have hi2 := HA.out.i32 b2 hbn
            obtain ⟨cw, hcw⟩ : ∃ cw, s.C b2 = cw := ⟨_, rfl⟩
            obtain ⟨dv, hdv⟩ : ∃ dv, s.B b2 = dv := ⟨_, rfl⟩
            rw [hcw] at cc hi2
            rw [hdv] at cdv hi2
            obtain ⟨i1, i2, i3, i4⟩ := hi2
            have ht1 : s.term r = if cw = (r : Int) ∧ dv ≤ 0 then some (-dv) else none := by
              by_cases e1 : cw = (r : Int)
              · by_cases e2 : dv ≤ 0
                · rw [if_pos ⟨e1, e2⟩, term_on (by rw [HB2.out]; exact hbz) (by rw [HB2.out, Int.toNat_natCast, hcw]; exact e1) (by rw [HB2.out, Int.toNat_natCast, hdv]; exact e2), HB2.out, Int.toNat_natCast, hdv]
                · rw [if_neg (fun e => e2 e.2), term_no (by rw [HB2.out, Int.toNat_natCast, hdv]; omega)]
              · rw [if_neg (fun e => e1 e.1), term_off (by rw [HB2.out, Int.toNat_natCast, hcw]; exact e1)]
            rw [ht1] at HH
            clear ht1 hcw hdv
            by_cases hcq2 : cw = (r : Int)
            · subst hcq2
              by_cases hd : dv ≤ 0
              · rw [if_pos ⟨rfl, hd⟩] at HH
                go_wp2_with (first | ((with_reducible refine gate_builtin (b := .append) (xs := #[.tmp 79, .tmp 87]) rfl ?_); at_builtin; refine Kd.R_append (Kd.int .i64) (w0 := W) W.heap.size rfl (.tmp 79) (.tmp 87) 23 3 (.int .i64 0) 8 rfl Try.underlying23 info_int rfl (by decide) (by omega) u4 x4 (-dv) [.int .i64 (-dv)] (fun k_ => some k_ ≠ (u5 : Value).ownBlock) (fun _ => False) rfl rfl ?aP (fun _ hk => hk.elim) ?aF ?aO ?aB ?aS ?aL ?_; (case aP => exact rfl); (case aB => exact (by repeat (first | (with_reducible first | exact HB.out | apply below_alloc | apply pw_below_drewN | apply below_drew1) | exact HB.out))); (case aF => exact (fun k_ hk => Kd.fresh' (Kd.R_lt (by (with_reducible repeat (first | apply Kd.R_alloc | apply Kd.R_drewN | apply Kd.R_drew)); exact HO5.out)) k_ hk)); (case aO => exact (by (with_reducible repeat (first | apply Kd.R_alloc | apply Kd.R_drewN | apply Kd.R_drew)); exact HO4.out)); (case aS => exact (below_size (by repeat (first | (with_reducible first | exact HB.out | apply below_alloc | apply pw_below_drewN | apply below_drew1) | exact HB.out)))); (case aL => omega); intro va wa ho hb hg hat; have n0_ := Aside0.mk (Kd.R_after (ok := (fun _ => True)) (by (with_reducible repeat (first | apply Kd.R_alloc | apply Kd.R_drewN | apply Kd.R_drew)); exact Kd.R_mono HO5.out (fun _ hk => ⟨trivial, hk⟩)) hg hat); have n1_ := Aside0.mk hb; have n2_ := Aside0.mk ho; clear HO5 HB HO4; have HO5 := n0_; have HB := n1_; have HOa := n2_; clear n0_ n1_ n2_; clear ho hb hg hat) | ((with_reducible refine gate_builtin (b := .append) (xs := #[.tmp 89, .tmp 92]) rfl ?_); at_builtin; refine Kd.R_append (Kd.int .i64) (w0 := W) W.heap.size rfl (.tmp 89) (.tmp 92) 23 3 (.int .i64 0) 8 rfl Try.underlying23 info_int rfl (by decide) (by omega) u5 x5 ((i : Int) + 1) [.int .i64 ((i : Int) + 1)] (fun k_ => some k_ ≠ (va : Value).ownBlock) (fun _ => False) rfl rfl ?aP (fun _ hk => hk.elim) ?aF ?aO ?aB ?aS ?aL ?_; (case aP => exact rfl); (case aB => exact (by repeat (first | (with_reducible first | exact HB.out | apply below_alloc | apply pw_below_drewN | apply below_drew1) | exact HB.out))); (case aF => exact (fun k_ hk => Kd.fresh' (Kd.R_lt (by (with_reducible repeat (first | apply Kd.R_alloc | apply Kd.R_drewN | apply Kd.R_drew)); exact HOa.out)) k_ hk)); (case aO => exact (by (with_reducible repeat (first | apply Kd.R_alloc | apply Kd.R_drewN | apply Kd.R_drew)); exact Kd.R_mono HO5.out (fun _ hk => hk.2))); (case aS => exact (below_size (by repeat (first | (with_reducible first | exact HB.out | apply below_alloc | apply pw_below_drewN | apply below_drew1) | exact HB.out)))); (case aL => omega); intro vb wb ho hb hg hat; have n0_ := Aside0.mk (Kd.R_after (ok := (fun _ => True)) (by (with_reducible repeat (first | apply Kd.R_alloc | apply Kd.R_drewN | apply Kd.R_drew)); exact Kd.R_mono HOa.out (fun _ hk => ⟨trivial, hk⟩)) hg hat); have n1_ := Aside0.mk hb; have n2_ := Aside0.mk ho; clear HOa HB HO5; have HOa := n0_; have HB := n1_; have HOb := n2_; clear n0_ n1_ n2_; clear ho hb hg hat))
                go_roundg kz
                case measure => omega
                case rel => exact ⟨i + 1, r, (q : Int), x4 ++ [-dv], x5 ++ [(i : Int) + 1], rfl, rfl, congrArg (Value.int .i64) (by omega), ⟨by omega⟩, HS2, ⟨by rw [hits_some HH.out, HV.out.1, HV.out.2]; simp⟩, ⟨Kd.R_mono HOa.out (fun _ hk => hk.2)⟩, HOb, HB⟩
              · rw [if_neg (fun e => hd e.2)] at HH
                have hdz : dv > 0 := by omega
                go_wp2_with fail
                go_roundg kz
                case measure => omega
                case rel => exact ⟨i + 1, r, (q : Int), x4, x5, rfl, rfl, congrArg (Value.int .i64) (by omega), ⟨by omega⟩, HS2, ⟨by rw [hits_none HH.out]; exact HV.out⟩, ⟨Kd.R_drewN HO4.out _⟩, ⟨Kd.R_drewN HO5.out _⟩, ⟨pw_below_drewN HB.out _⟩⟩
            · rw [if_neg (fun e => hcq2 e.1)] at HH
              have hcq3 : (cw == (r : Int)) = false := by rw [beq_eq_false_iff_ne]; exact hcq2
              go_wp2_with fail
              go_roundg kz
              case measure => omega
              case rel => exact ⟨i + 1, r, (q : Int), x4, x5, rfl, rfl, congrArg (Value.int .i64) (by omega), ⟨by omega⟩, HS2, ⟨by rw [hits_none HH.out]; exact HV.out⟩, ⟨Kd.R_drewN HO4.out _⟩, ⟨Kd.R_drewN HO5.out _⟩, ⟨pw_below_drewN HB.out _⟩⟩
          · have hbz : ¬ (b2 : Int) < (s.n : Int) := by omega
            rw [term_far (by rw [HB2.out]; omega)] at HH
            go_wp2_with fail
            go_roundg kz
            case measure => omega
            case rel => exact ⟨i + 1, r, (q : Int), x4, x5, rfl, rfl, congrArg (Value.int .i64) (by omega), ⟨by omega⟩, HS2, ⟨by rw [hits_none HH.out]; exact HV.out⟩, ⟨Kd.R_drewN HO4.out _⟩, ⟨Kd.R_drewN HO5.out _⟩, ⟨pw_below_drewN HB.out _⟩⟩
        · have hst : s.step q ((bs t).getD i 0) = none := step_off (by rw [HR.out, Int.toNat_natCast, HCV.out]; exact hcq)
          have HX := Aside0.mk (HS.out.stop G.out C.out hil hst)
          clear hst
          have hcq2 : (cv == (q : Int)) = false := by rw [beq_eq_false_iff_ne]; exact hcq
          have hcq3 : (cv != (q : Int)) = true := by rw [bne, hcq2]; rfl
          have hV1 := HV.out.1.trans (congrArg _ (hits_stop HX.out (show i ≤ (bs t).length by omega)).symm)
          have hV2 := HV.out.2.trans (congrArg _ (hits_stop HX.out (show i ≤ (bs t).length by omega)).symm)
          have HV1 := Aside0.mk hV1
          have HV2 := Aside0.mk hV2
          clear hV1 hV2
          go_wp2_with fail
          exact bodyPost_ret (v := .tuple #[u4, u5]) (by simp [results, Try.results47, go_sem]) rfl ⟨u4, u5, rfl, by rw [← HV1.out]; exact Kd.R_drewN HO4.out _, by rw [← HV2.out]; exact Kd.R_drewN HO5.out _, pw_below_drewN HB.out _⟩
      · have hrz : ¬ (r : Int) < (s.n : Int) := by omega
        have hst : s.step q ((bs t).getD i 0) = none := step_far (by rw [HR.out]; omega)
        have HX := Aside0.mk (HS.out.stop G.out C.out hil hst)
        clear hst
        have hV1 := HV.out.1.trans (congrArg _ (hits_stop HX.out (show i ≤ (bs t).length by omega)).symm)
        have hV2 := HV.out.2.trans (congrArg _ (hits_stop HX.out (show i ≤ (bs t).length by omega)).symm)
        have HV1 := Aside0.mk hV1
        have HV2 := Aside0.mk hV2
        clear hV1 hV2
        go_wp2_with fail
        exact bodyPost_ret (v := .tuple #[u4, u5]) (by simp [results, Try.results47, go_sem]) rfl ⟨u4, u5, rfl, by rw [← HV1.out]; exact Kd.R_drewN HO4.out _, by rw [← HV2.out]; exact Kd.R_drewN HO5.out _, pw_below_drewN HB.out _⟩
    · have hiz : ¬ (i : Int) < (t.size : Int) := by omega
      obtain rfl : i = t.size := by omega
      go_wp2_with fail
      exact bodyPost_ret (v := .tuple #[u4, u5]) (by simp [results, Try.results47, go_sem]) rfl ⟨u4, u5, rfl, by rw [bs_len, ← HV.out.1]; exact HO4.out, by rw [bs_len, ← HV.out.2]; exact HO5.out, HB.out⟩
end Go.Proofs.Ytaejkbjepbifcaa.Da
namespace Go.Proofs.Ytaejkbjepbifcaa.Da
open Go.RowKit Go.Proofs.YtaejkbjepbifcaaW.PrintWords
set_option linter.unusedVariables false
set_option linter.unusedSimpArgs false
/-- The box of an answer. -/
def ABox (W : World) (xb : Nat) (c0 c1 c2 c3 c4 cv : Value) : Prop := W.heap[xb]? = some (.cells #[c0, c1, c2, c3, c4, cv] 34 (0, 0))
theorem ABox.set5 {W : World} {xb : Nat} {c0 c1 c2 c3 c4 cv : Value} (h : ABox W xb c0 c1 c2 c3 c4 cv) (v : Value) : ABox (W.setCell ⟨xb, 5, none⟩ v) xb c0 c1 c2 c3 c4 v := (setCell_heap h).trans (by rfl)
theorem ABox.cell5 {W : World} {xb : Nat} {c0 c1 c2 c3 c4 cv : Value} (h : ABox W xb c0 c1 c2 c3 c4 cv) : W.cell? ⟨xb, 5, none⟩ = some cv := by unfold ABox at h; unfold World.cell?; simp [h]
theorem ABox.froz {W : World} {xb : Nat} {c0 c1 c2 c3 c4 cv : Value} (h : ABox W xb c0 c1 c2 c3 c4 cv) (i : Nat) : W.frozen? ⟨xb, i, none⟩ = false := by unfold ABox at h; unfold World.frozen?; simp [h]
theorem ABox.lt {W : World} {xb : Nat} {c0 c1 c2 c3 c4 cv : Value} (h : ABox W xb c0 c1 c2 c3 c4 cv) : xb < W.heap.size := (Array.getElem?_eq_some_iff.1 h).1
theorem ABox.step {W W' : World} {xb : Nat} {c0 c1 c2 c3 c4 cv : Value} (h : ABox W xb c0 c1 c2 c3 c4 cv) (e : W'.heap[xb]? = W.heap[xb]?) : ABox W' xb c0 c1 c2 c3 c4 cv := e.trans h
/-- One is told. -/
def TellE (W w' : World) (xb B : Nat) (id l : Int) (c0 c1 c2 c3 c4 : Value) (xs : List PB.S39) : Prop := ∃ cv, ABox w' xb c0 c1 c2 c3 c4 cv ∧ Kd.R PB.k39 39 w' B (fun _ => True) cv (xs ++ [⟨id, l⟩]) ∧ Kp W w' (fun k => k = xb ∨ B ≤ k)
set_option maxHeartbeats 16000000 in
set_option maxRecDepth 100000 in
theorem tell_calls (W : World) (xb B : Nat) (id l : Int) (c0 c1 c2 c3 c4 cv : Value) (xs : List PB.S39) (hx : ABox W xb c0 c1 c2 c3 c4 cv) (hlt : xb < B) (hBs : B ≤ W.heap.size) (hR : Kd.R PB.k39 39 W B (fun _ => True) cv xs) (hl : xs.length ≤ 1000000000) :
    Calls Try.prog 49 #[.int .i64 id, .int .i64 l, .pointer (some ⟨xb, 0, none⟩)] W fun e w' => e = .returned (.tuple #[]) ∧ TellE W w' xb B id l c0 c1 c2 c3 c4 xs := by
  have HX := Aside0.mk hx
  have HR := Aside0.mk hR
  have c5 := hx.cell5
  have f5 := hx.froz 5
  clear hx hR
  go_enter Try.func49, Try.ntmps49
  go_wp2_with ((with_reducible refine gate_builtin (b := .append) (xs := #[.tmp 6, .tmp 10]) rfl ?_); at_builtin; refine Kd.R_append PB.k39 (w0 := W) B rfl (.tmp 6) (.tmp 10) 32 39 (.agg #[.int .i64 0, .int .i64 0]) 16 rfl Try.underlying32 PB.info39 rfl (by decide) (by omega) cv xs (⟨id, l⟩ : PB.S39) [.int .i64 id, .int .i64 l] (fun _ => True) (fun _ => False) rfl rfl (PB.k39_mkM _ _ _ _) (fun _ hk => hk.elim) (fun _ _ => trivial) HR.out (Below.refl _ _) hBs (by omega) ?_; intro va wa ho hb hg hat; have hx2 : ABox wa xb c0 c1 c2 c3 c4 cv := HX.out.step (hb.block xb hlt); have f5w := hx2.froz 5; have c5w := hx2.cell5; have HX2 := Aside0.mk hx2; clear hx2; obtain ⟨Av, kv, rfl⟩ := Kd.R_slice ho; simp only [List.length_append, List.length_cons, List.length_nil, Nat.zero_add] at ho; have HO := Aside0.mk ho; have HB := Aside0.mk hb; have HG := Aside0.mk hg; clear ho hb hg hat)
  go_end0
  refine ⟨rfl, _, HX2.out.set5 _, Kd.R_mono (Kd.R_far (p := ⟨xb, 5, none⟩) (Kd.R_mono (Kd.R_bound HO.out) (ok' := fun k => k ≠ xb) (fun k hk => by have := hk.2.1; omega)) (fun k hk => hk) _) (fun _ _ => trivial), ?_⟩
  refine Kp.setCell ?_ _ _ (Or.inl rfl)
  exact ⟨HB.out.size, fun i hi hn => HG.out.block i hi (fun e => hn (Or.inr (Kd.R_base HR.out i e.symm))), HG.out.os, HG.out.tape, HG.out.output⟩
/-- The hits as the program lists them. -/
def hitsS (L : Keys) (w : List Int) (k : Nat) : List PB.S39 := (hitsTo L w k).map (fun h => ⟨h.1, h.2⟩)
theorem hitsS_len (L : Keys) (w : List Int) (k : Nat) : (hitsS L w k).length ≤ k := by unfold hitsS; rw [List.length_map]; exact hits_len _ _ _
def CbE (W w' : World) (xb : Nat) (c0 c1 c2 c3 c4 : Value) (xs : List PB.S39) : Prop := ∃ cv, ABox w' xb c0 c1 c2 c3 c4 cv ∧ Kd.R PB.k39 39 w' W.heap.size (fun _ => True) cv xs ∧ Kp W w' (fun k => k = xb)
theorem CbE.drewN {W w' : World} {xb : Nat} {c0 c1 c2 c3 c4 : Value} {xs : List PB.S39} (h : CbE W w' xb c0 c1 c2 c3 c4 xs) (q : Nat) : CbE W (w'.drewN q) xb c0 c1 c2 c3 c4 xs := by
  obtain ⟨cv, h1, h2, h3⟩ := h
  exact ⟨cv, h1.step rfl, Kd.R_drewN h2 _, h3.drewN _⟩
theorem CbE.tell {W w' w2 : World} {xb : Nat} {id l : Int} {c0 c1 c2 c3 c4 : Value} {xs : List PB.S39} (hlt : xb < W.heap.size) (hk : Kp W w' (fun k => k = xb)) (h : TellE w' w2 xb W.heap.size id l c0 c1 c2 c3 c4 xs) : CbE W w2 xb c0 c1 c2 c3 c4 (xs ++ [⟨id, l⟩]) := by
  obtain ⟨cv, h1, h2, h3⟩ := h
  exact ⟨cv, h1, h2, (hk.trans h3).mono (fun i hi h => by rcases h with h | h | h; exact h; exact h; omega)⟩
set_option maxHeartbeats 16000000 in
set_option maxRecDepth 100000 in
theorem cb_calls (W : World) (g xb : Nat) (s : DA) (L : Keys) (t : ByteArray) (c0 c1 c2 c3 c4 : Value) (M_ : Arr W g s) (G_ : Good s 0 L) (C_ : Cln t) (hsz : t.size ≤ 1000000000) (hn : 0 < s.n) (hx : ABox W xb c0 c1 c2 c3 c4 (.slice none 0 0)) (hgx : g ≠ xb) :
    Calls Try.prog 48 #[.slice (some ⟨g, 0, none⟩) s.n s.n, .string t, .func (Fn.func 49) #[] #[.pointer (some ⟨xb, 0, none⟩)]] W fun e w' => e = .returned (.tuple #[]) ∧ CbE W w' xb c0 c1 c2 c3 c4 (hitsS L (bs t) (bs t).length) := by
  have HA0 := Aside0.mk M_
  have G := Aside0.mk G_
  have C := Aside0.mk C_
  have big := M_.big
  have hxl := hx.lt
  have HC0 : Aside0 (CbE W W xb c0 c1 c2 c3 c4 []) := ⟨⟨_, hx, Kd.R_nil _ _ _ _ _, Kp.self _ _⟩⟩
  clear M_ G_ C_ hx
  go_enter Try.func48, Try.ntmps48
  go_wp2_with fail
  go_loopg [6, 7, 9, 15] t.size (fun kq v6 v7 v9 v15 w' => ∃ (i q : Nat) (p : Int) (xs : List PB.S39), v6 = .int .i64 p ∧ v7 = .int .i64 (q : Int) ∧ v15 = .int .i64 (i : Int) ∧ Aside0 (i + kq = t.size) ∧ Aside0 (Sk s L (bs t) i q) ∧ Aside0 (xs = hitsS L (bs t) i) ∧ Aside0 (CbE W w' xb c0 c1 c2 c3 c4 xs))
  case atStart => exact ⟨0, 0, 0, [], rfl, rfl, rfl, ⟨by omega⟩, ⟨Sk.start _ _ _⟩, ⟨rfl⟩, HC0⟩
  case round =>
    clear HC0
    obtain ⟨i, q, p, xs, rfl, rfl, rfl, HI, HS, HV, HCB⟩ := hrel
    have hxs : xs.length ≤ i := by rw [HV.out]; exact hitsS_len _ _ _
    have HA : Aside0 (Arr wr g s) := ⟨HA0.out.step (by obtain ⟨_, _, _, hk⟩ := HCB.out; exact hk.old g HA0.out.lt hgx)⟩
    have hi := HI.out
    by_cases hlt : i < t.size
    · have hiz : (i : Int) < (t.size : Int) := by omega
      have hil : i < (bs t).length := by rw [bs_len]; exact hlt
      have h3 := (HS.out.told G.out C.out).2.2
      have hq : q < s.n := HS.out.lt hn
      have hcd : (bs t).getD i 0 = ((t[i]'hlt).toNat : Int) := bs_at t i hlt
      have hc0 := C.out _ (List.getElem_mem hil)
      rw [bs_get t i hlt] at hc0
      have hc1 := hc0.1
      have hc2 := hc0.2
      have hcn : (((t[i]'hlt).toNat : Int) == 0) = false := by rw [beq_eq_false_iff_ne]; omega
      have hi32 := HA.out.i32 q hq
      obtain ⟨b, hb⟩ : ∃ b : Nat, s.B q = (b : Int) := ⟨(s.B q).toNat, by omega⟩
      have cb : wr.cell? ⟨g, q * 2, none⟩ = some (.int .i32 (b : Int)) := (HA.out.base q hq).trans (by rw [hb])
      obtain ⟨r, hr⟩ : ∃ r : Nat, b + (t[i]'hlt).toNat = r := ⟨_, rfl⟩
      have HR : Aside0 (s.B q + (bs t).getD i 0 = (r : Int)) := ⟨by omega⟩
      have hqz : (q : Int) < (s.n : Int) := by omega
      have hr0 : 0 ≤ (r : Int) := by omega
      have hsum := sum_nat b (t[i]'hlt).toNat r (by omega) (by omega) hr
      have hbw := wrap_nat b (by omega)
      clear hc0 hb hcd h3 hi32
      go_upto_region 7 with fail
      have hw := hsum
      have hwb := hbw
      clear hsum hbw
      go_quiet (fail)
      clear hw hwb
      by_cases hrn : r < s.n
      · have hrz : (r : Int) < (s.n : Int) := by omega
        have cr : wr.cell? ⟨g, r * 2 + 1, none⟩ = _ := HA.out.chk r hrn
        obtain ⟨cv, hcv⟩ : ∃ cv, s.C r = cv := ⟨_, rfl⟩
        rw [hcv] at cr
        have hb3 := HA.out.i32 r hrn
        rw [hcv] at hb3
        have hb4 := hb3.2.2.1
        have hb5 := hb3.2.2.2
        clear hb3
        have HCV := Aside0.mk hcv
        clear hcv
        by_cases hcq : cv = (q : Int)
        · have HC2 := Aside0.mk hcq
          subst hcq
          have hst : s.step q ((bs t).getD i 0) = some r := by
            have := step_on (s := s) (q := q) (c := (bs t).getD i 0) (by rw [HR.out]; exact hrz) (by rw [HR.out, Int.toNat_natCast]; exact HCV.out)
            rw [this, HR.out, Int.toNat_natCast]
          have HS2 := Aside0.mk (HS.out.go hil hst)
          clear hst
          have h3 := (HS2.out.told G.out C.out).2.2
          have hi32 := HA.out.i32 r hrn
          obtain ⟨b2, hb2⟩ : ∃ b2 : Nat, s.B r = (b2 : Int) := ⟨(s.B r).toNat, by omega⟩
          have cb2 : wr.cell? ⟨g, r * 2, none⟩ = some (.int .i32 (b2 : Int)) := (HA.out.base r hrn).trans (by rw [hb2])
          have hb2n : b2 ≤ 2147483647 := by omega
          have HB2 := Aside0.mk hb2
          have HH : Aside0 (hitAt L (bs t) i = s.term r) := ⟨HS2.out.hit G.out C.out⟩
          clear h3 hi32 hb2
          cases gk with
          | zero => omega
          | succ kz =>
          by_cases hbn : b2 < s.n
          · have hbz : (b2 : Int) < (s.n : Int) := by omega
            have cc : wr.cell? ⟨g, b2 * 2 + 1, none⟩ = _ := HA.out.chk b2 hbn
            have cdv : wr.cell? ⟨g, b2 * 2, none⟩ = _ := HA.out.base b2 hbn
            have hi2 := HA.out.i32 b2 hbn
            obtain ⟨cw, hcw⟩ : ∃ cw, s.C b2 = cw := ⟨_, rfl⟩
            obtain ⟨dv, hdv⟩ : ∃ dv, s.B b2 = dv := ⟨_, rfl⟩
            rw [hcw] at cc hi2
            rw [hdv] at cdv hi2
            obtain ⟨i1, i2, i3, i4⟩ := hi2
            have ht1 : s.term r = if cw = (r : Int) ∧ dv ≤ 0 then some (-dv) else none := by
              by_cases e1 : cw = (r : Int)
              · by_cases e2 : dv ≤ 0
                · rw [if_pos ⟨e1, e2⟩, term_on (by rw [HB2.out]; exact hbz) (by rw [HB2.out, Int.toNat_natCast, hcw]; exact e1) (by rw [HB2.out, Int.toNat_natCast, hdv]; exact e2), HB2.out, Int.toNat_natCast, hdv]
                · rw [if_neg (fun e => e2 e.2), term_no (by rw [HB2.out, Int.toNat_natCast, hdv]; omega)]
              · rw [if_neg (fun e => e1 e.1), term_off (by rw [HB2.out, Int.toNat_natCast, hcw]; exact e1)]
            rw [ht1] at HH
            clear ht1 hcw hdv
            by_cases hcq2 : cw = (r : Int)
            · subst hcq2
              by_cases hd : dv ≤ 0
              · rw [if_pos ⟨rfl, hd⟩] at HH
                have HCB2 := Aside0.mk (HCB.out.drewN nq)
                obtain ⟨cv, g1, g2, g3⟩ := HCB2.out
                have HG3 := Aside0.mk g3
                have HT := Aside0.mk (tell_calls _ xb W.heap.size (-dv) ((i : Int) + 1) c0 c1 c2 c3 c4 cv xs g1 hxl g3.size g2 (by omega))
                clear g1 g2 g3
                go_wp2_with (go_at_call 49; refine HT.out.mono ?_; rintro e_ w2 ⟨rfl, hT⟩; have HT2 := Aside0.mk hT; clear hT)
                go_roundg kz
                case measure => omega
                case rel => exact ⟨i + 1, r, (q : Int), _, rfl, rfl, congrArg (Value.int .i64) (by omega), ⟨by omega⟩, HS2, ⟨by rw [HV.out]; unfold hitsS; rw [hits_some HH.out, List.map_append]; rfl⟩, ⟨CbE.tell hxl HG3.out HT2.out⟩⟩
              · rw [if_neg (fun e => hd e.2)] at HH
                have hdz : dv > 0 := by omega
                go_wp2_with fail
                go_roundg kz
                case measure => omega
                case rel => exact ⟨i + 1, r, (q : Int), xs, rfl, rfl, congrArg (Value.int .i64) (by omega), ⟨by omega⟩, HS2, ⟨by rw [HV.out]; exact congrArg (List.map _) (hits_none HH.out).symm⟩, ⟨HCB.out.drewN _⟩⟩
            · rw [if_neg (fun e => hcq2 e.1)] at HH
              have hcq3 : (cw == (r : Int)) = false := by rw [beq_eq_false_iff_ne]; exact hcq2
              go_wp2_with fail
              go_roundg kz
              case measure => omega
              case rel => exact ⟨i + 1, r, (q : Int), xs, rfl, rfl, congrArg (Value.int .i64) (by omega), ⟨by omega⟩, HS2, ⟨by rw [HV.out]; exact congrArg (List.map _) (hits_none HH.out).symm⟩, ⟨HCB.out.drewN _⟩⟩
          · have hbz : ¬ (b2 : Int) < (s.n : Int) := by omega
            rw [term_far (by rw [HB2.out]; omega)] at HH
            go_wp2_with fail
            go_roundg kz
            case measure => omega
            case rel => exact ⟨i + 1, r, (q : Int), xs, rfl, rfl, congrArg (Value.int .i64) (by omega), ⟨by omega⟩, HS2, ⟨by rw [HV.out]; exact congrArg (List.map _) (hits_none HH.out).symm⟩, ⟨HCB.out.drewN _⟩⟩
        · have hst : s.step q ((bs t).getD i 0) = none := step_off (by rw [HR.out, Int.toNat_natCast, HCV.out]; exact hcq)
          have HX := Aside0.mk (HS.out.stop G.out C.out hil hst)
          clear hst
          have hcq2 : (cv == (q : Int)) = false := by rw [beq_eq_false_iff_ne]; exact hcq
          have hcq3 : (cv != (q : Int)) = true := by rw [bne, hcq2]; rfl
          have hV1 := HV.out.trans (congrArg (List.map _) (hits_stop HX.out (show i ≤ (bs t).length by omega)).symm)
          have HV1 := Aside0.mk hV1
          clear hV1
          go_wp2_with fail
          go_end0
          refine ⟨rfl, ?_⟩
          have h := HCB.out.drewN nq
          rw [HV1.out] at h
          exact h
      · have hrz : ¬ (r : Int) < (s.n : Int) := by omega
        have hst : s.step q ((bs t).getD i 0) = none := step_far (by rw [HR.out]; omega)
        have HX := Aside0.mk (HS.out.stop G.out C.out hil hst)
        clear hst
        have hV1 := HV.out.trans (congrArg (List.map _) (hits_stop HX.out (show i ≤ (bs t).length by omega)).symm)
        have HV1 := Aside0.mk hV1
        clear hV1
        go_wp2_with fail
        go_end0
        refine ⟨rfl, ?_⟩
        have h := HCB.out.drewN nq
        rw [HV1.out] at h
        exact h
    · have hiz : ¬ (i : Int) < (t.size : Int) := by omega
      obtain rfl : i = t.size := by omega
      go_wp2_with fail
      go_end0
      refine ⟨rfl, ?_⟩
      have h := HCB.out
      rw [HV.out, ← bs_len] at h
      exact h
end Go.Proofs.Ytaejkbjepbifcaa.Da
namespace Go.Proofs.Ytaejkbjepbifcaa.PB
open Go.RowKit Go.Proofs.YtaejkbjepbifcaaW.PrintWords Go.Proofs.YtaejkbjepbifcaaW.PrintLast Go.Proofs.YtaejkbjepbifcaaW.PrintMore
attribute [local go_sem] max2_int min2_int max_two min_two max_three min_three max_four min_four   -- for this text's walks alone
set_option linter.unusedVariables false
set_option linter.unusedSimpArgs false

/-! ### cmp_Less_string: function 57 -/
def cmp_Less_string.f (a0 : ByteArray) (a1 : ByteArray) : Option (Bool) := (cmp_isNaN_string.f a0).bind fun t110 => (if t110 = true then ((cmp_isNaN_string.f a1).bind fun t111 => (if t111 = true then (some (Op.bytesLess a0.toList a1.toList)) else (some true))) else (some (Op.bytesLess a0.toList a1.toList)))
set_option maxHeartbeats 8000000 in
set_option maxRecDepth 100000 in
theorem cmp_Less_string.calls (a0 : ByteArray) (a1 : ByteArray) (r : Bool) (w : World) (h : cmp_Less_string.f a0 a1 = some r) :
  Calls Try.prog 57 #[.string a0, .string a1] w fun e w' => e = .returned (.bool r) ∧ Drawn0 w w' := by
 have H : ((cmp_isNaN_string.f a0).bind fun t110 => (if t110 = true then ((cmp_isNaN_string.f a1).bind fun t111 => (if t111 = true then (some (Op.bytesLess a0.toList a1.toList)) else (some true))) else (some (Op.bytesLess a0.toList a1.toList)))) = some r := h
 clear h
 replace H := Option.bind_eq_some_iff.mp H
 obtain ⟨t110, A30, H⟩ := H
 replace H : (if t110 = true then ((cmp_isNaN_string.f a1).bind fun t111 => (if t111 = true then (some (Op.bytesLess a0.toList a1.toList)) else (some true))) else (some (Op.bytesLess a0.toList a1.toList))) = some r := H
 have A3 := Aside0.mk A30
 clear A30
 by_cases c4 : t110 = true
 ·subst c4
  have H1 : ((cmp_isNaN_string.f a1).bind fun t111 => (if t111 = true then (some (Op.bytesLess a0.toList a1.toList)) else (some true))) = some r := by rw [if_pos rfl] at H; exact H
  clear H
  have H := H1
  clear H1
  replace H := Option.bind_eq_some_iff.mp H
  obtain ⟨t111, A50, H⟩ := H
  replace H : (if t111 = true then (some (Op.bytesLess a0.toList a1.toList)) else (some true)) = some r := H
  have A5 := Aside0.mk A50
  clear A50
  by_cases c6 : t111 = true
  ·subst c6
   have H1 : (some (Op.bytesLess a0.toList a1.toList)) = some r := by rw [if_pos rfl] at H; exact H
   clear H
   have H := H1
   clear H1
   obtain rfl := Option.some.inj H
   go_enter Try.func57, Try.ntmps57
   go_wp2_with (first | ((with_reducible refine gate_callee (f := 68) rfl ?_); refine goesL_ (some 6) rfl rfl Try.func68 (by kernel_rfl) rfl #[.string a0] rfl (by (try simp only [List.map_toArray, List.map_cons, List.map_nil]); first | done | rfl | (simp only [List.length_drop, List.length_take]; rfl)) ?_; (with_reducible refine (cmp_isNaN_string.calls a0 true _ A3.out).mono ?_); rintro e w' ⟨rfl, ⟨nd, rfl⟩⟩; refine ⟨_, rfl, ?_⟩) | (go_at_call 68; (with_reducible refine (cmp_isNaN_string.calls a1 true _ A5.out).mono ?_); rintro e w' ⟨rfl, ⟨nd, rfl⟩⟩))
   go_ret
   exact ⟨by first | rfl | (simp; done) | (simp [*]; done) | (simp [Own.isEmpty_bne]; done), by repeat (first | exact Drawn0.refl _ | apply Drawn0.step)⟩
  ·replace c6 := Bool.eq_false_iff.mpr c6
   subst c6
   have H1 : (some true) = some r := by rw [if_neg (show ¬ (false = true) by decide)] at H; exact H
   clear H
   have H := H1
   clear H1
   obtain rfl := Option.some.inj H
   go_enter Try.func57, Try.ntmps57
   go_wp2_with (first | ((with_reducible refine gate_callee (f := 68) rfl ?_); refine goesL_ (some 6) rfl rfl Try.func68 (by kernel_rfl) rfl #[.string a0] rfl (by (try simp only [List.map_toArray, List.map_cons, List.map_nil]); first | done | rfl | (simp only [List.length_drop, List.length_take]; rfl)) ?_; (with_reducible refine (cmp_isNaN_string.calls a0 true _ A3.out).mono ?_); rintro e w' ⟨rfl, ⟨nd, rfl⟩⟩; refine ⟨_, rfl, ?_⟩) | (go_at_call 68; (with_reducible refine (cmp_isNaN_string.calls a1 false _ A5.out).mono ?_); rintro e w' ⟨rfl, ⟨nd, rfl⟩⟩))
   go_ret
   exact ⟨by first | rfl | (simp; done) | (simp [*]; done) | (simp [Own.isEmpty_bne]; done), by repeat (first | exact Drawn0.refl _ | apply Drawn0.step)⟩
 ·replace c4 := Bool.eq_false_iff.mpr c4
  subst c4
  have H1 : (some (Op.bytesLess a0.toList a1.toList)) = some r := by rw [if_neg (show ¬ (false = true) by decide)] at H; exact H
  clear H
  have H := H1
  clear H1
  obtain rfl := Option.some.inj H
  go_enter Try.func57, Try.ntmps57
  go_wp2_with (first | ((with_reducible refine gate_callee (f := 68) rfl ?_); refine goesL_ (some 6) rfl rfl Try.func68 (by kernel_rfl) rfl #[.string a0] rfl (by (try simp only [List.map_toArray, List.map_cons, List.map_nil]); first | done | rfl | (simp only [List.length_drop, List.length_take]; rfl)) ?_; (with_reducible refine (cmp_isNaN_string.calls a0 false _ A3.out).mono ?_); rintro e w' ⟨rfl, ⟨nd, rfl⟩⟩; refine ⟨_, rfl, ?_⟩))
  go_ret
  exact ⟨by first | rfl | (simp; done) | (simp [*]; done) | (simp [Own.isEmpty_bne]; done), by repeat (first | exact Drawn0.refl _ | apply Drawn0.step)⟩

/-! ### slices_IsSorted_string_string: function 39 -/
def slices_IsSorted_string_string.l0 : Nat → List ByteArray → Int → Option (Bool)
 | 0, _, _ => none
 | k + 1, x0, x3 => if x3 > 0 then (if 0 ≤ x3 then (if x3 < (x0.length : Int) then (if 0 ≤ (wrap64 (x3 - 1)) then (if (wrap64 (x3 - 1)) < (x0.length : Int) then ((cmp_Less_string.f (rdOf ByteArray.empty x0 x3) (rdOf ByteArray.empty x0 (wrap64 (x3 - 1)))).bind fun t114 => (if t114 = true then (some false) else (slices_IsSorted_string_string.l0 k x0 (wrap64 (x3 - 1))))) else (none)) else (none)) else (none)) else (none)) else (some true)
def slices_IsSorted_string_string.f (k : Nat) (l0 : List ByteArray) : Option (Bool) := slices_IsSorted_string_string.l0 k l0 (wrap64 ((l0.length : Int) - 1))
theorem slices_IsSorted_string_string.mono_l : ∀ k, (∀ y0 y1, LeO (slices_IsSorted_string_string.l0 k y0 y1) (slices_IsSorted_string_string.l0 (k + 1) y0 y1))
 | 0 => fun _ _ r h => by simp [slices_IsSorted_string_string.l0] at h
 | k + 1 => by
  have ih0 := slices_IsSorted_string_string.mono_l k
  ·intro y0 y1
   unfold slices_IsSorted_string_string.l0
   repeat' first
   | (with_reducible exact ih0 _ _)
   | (with_reducible exact LeO.refl _)
   | (with_reducible exact LeO.none _)
   | (with_reducible refine LeO.ite ?_ ?_)
   | (with_reducible refine LeO.bind ?_ (fun _ => ?_))
   | exact ih0 _ _
   | exact LeO.none _
   | refine LeO.ite ?_ ?_
   | refine LeO.bind ?_ (fun _ => ?_)
theorem slices_IsSorted_string_string.mono : ∀ a0 k, LeO (slices_IsSorted_string_string.f k a0) (slices_IsSorted_string_string.f (k + 1) a0) := by
 intro a0 k
 have ih0 := slices_IsSorted_string_string.mono_l k
 unfold slices_IsSorted_string_string.f
 repeat' first
   | (with_reducible exact ih0 _ _)
   | (with_reducible exact LeO.refl _)
   | (with_reducible exact LeO.none _)
   | (with_reducible refine LeO.ite ?_ ?_)
   | (with_reducible refine LeO.bind ?_ (fun _ => ?_))
   | exact ih0 _ _
   | exact LeO.none _
   | refine LeO.ite ?_ ?_
   | refine LeO.bind ?_ (fun _ => ?_)
set_option maxHeartbeats 8000000 in
set_option maxRecDepth 100000 in
theorem slices_IsSorted_string_string.calls (k : Nat) (A0 : Option Addr) (c0 : Nat) (l0 : List ByteArray) (r : Bool) (w : World) (hr0 : Kd.C Kd.string w A0 l0.length l0) (hc0 : l0.length ≤ c0) (h : slices_IsSorted_string_string.f k l0 = some r) :
  Calls Try.prog 39 #[.slice A0 l0.length c0] w fun e w' => e = .returned (.bool r) ∧ Drawn0 w w' := by
 have HR0 := Aside0.mk hr0
 have HC0 := Aside0.mk hc0
 clear hr0 hc0
 have H : (slices_IsSorted_string_string.l0 k l0 (wrap64 ((l0.length : Int) - 1))) = some r := h
 clear h
 have H' := Aside0.mk H
 clear H
 go_enter Try.func39, Try.ntmps39
 go_wp2
 repeat (go_quiet (fail); try go_wp2)
 go_loopg [3] k (fun kq v3 w' => ∃ (x3_1 : Int), v3 = .int .i64 x3_1 ∧ Aside0 (slices_IsSorted_string_string.l0 kq l0 x3_1 = some r) ∧ Aside0 (kq ≤ k) ∧ Drawn0 w w')
 case atStart => exact ⟨(wrap64 ((l0.length : Int) - 1)), (by first | rfl | (simp; done) | (simp [*]; done)), H', ⟨Nat.le_refl _⟩, by repeat (first | exact Drawn0.refl _ | apply Drawn0.step)⟩
 case round =>
  clear H'
  obtain ⟨x3_1, rfl, HA, HK1, ⟨m1, rfl⟩⟩ := hrel
  cases gk with
  | zero => exact absurd HA.out (by simp [slices_IsSorted_string_string.l0])
  | succ k1 =>
   have H := HA.out
   clear HA
   simp only [slices_IsSorted_string_string.l0] at H
   by_cases c2 : x3_1 > 0
   ·rw [if_pos c2] at H
    have c2b0 : decide (0 < x3_1) = true := decide_eq_true c2
    clear c2
    by_cases c3 : 0 ≤ x3_1
    ·rw [if_pos c3] at H
     have c3b0 : decide (0 ≤ x3_1) = true := decide_eq_true c3
     clear c3
     by_cases c4 : x3_1 < (l0.length : Int)
     ·rw [if_pos c4] at H
      have c4b0 : decide (x3_1 < (l0.length : Int)) = true := decide_eq_true c4
      clear c4
      obtain ⟨ji5, hji5⟩ : ∃ j_ : Int, (wrap64 (x3_1 - 1)) = j_ := ⟨_, rfl⟩
      replace H : (if 0 ≤ (ji5) then (if (ji5) < (l0.length : Int) then ((cmp_Less_string.f (rdOf ByteArray.empty l0 x3_1) (rdOf ByteArray.empty l0 (ji5))).bind fun t114 => (if t114 = true then (some false) else (slices_IsSorted_string_string.l0 k1 l0 ji5))) else (none)) else (none)) = some r := by first | (rw [hji5] at H; exact H) | (simp only [hji5] at H ⊢; exact H)
      have hji5w : (IntKind.i64.wrap (x3_1 - 1)) = ji5 := (i64_w _).trans hji5
      by_cases c6 : 0 ≤ (ji5)
      ·rw [if_pos c6] at H
       have c6b0 : decide (0 ≤ (ji5)) = true := decide_eq_true c6
       clear c6
       by_cases c7 : (ji5) < (l0.length : Int)
       ·rw [if_pos c7] at H
        have c7b0 : decide ((ji5) < (l0.length : Int)) = true := decide_eq_true c7
        clear c7
        replace H := Option.bind_eq_some_iff.mp H
        obtain ⟨t114, A80, H⟩ := H
        replace H : (if t114 = true then (some false) else (slices_IsSorted_string_string.l0 k1 l0 ji5)) = some r := H
        have A8 := Aside0.mk A80
        clear A80
        by_cases c9 : t114 = true
        ·subst c9
         have H1 : (some false) = some r := by rw [if_pos rfl] at H; exact H
         clear H
         have H := H1
         clear H1
         obtain rfl := Option.some.inj H
         have p112 : 0 ≤ (x3_1 : Int) := of_decide_eq_true (by first | (with_reducible assumption) | assumption)
         have q112 : x3_1 < (l0.length : Int) := of_decide_eq_true (by first | (with_reducible assumption) | assumption)
         obtain ⟨ad112, e112, hx112_0⟩ := Kd.at_string HR0.out x3_1 p112 q112
         cases e112
         replace p112 := eq_true p112
         replace q112 := eq_true q112
         have p113 : 0 ≤ ((ji5) : Int) := of_decide_eq_true (by first | (with_reducible assumption) | assumption)
         have q113 : (ji5) < (l0.length : Int) := of_decide_eq_true (by first | (with_reducible assumption) | assumption)
         obtain ⟨ad113, e113, hx113_0⟩ := Kd.at_string HR0.out (ji5) p113 q113
         obtain rfl : ad112 = ad113 := (by injection e113)
         replace p113 := eq_true p113
         replace q113 := eq_true q113
         go_wp2_with (first | (go_at_call 57; (with_reducible refine (cmp_Less_string.calls (rdOf ByteArray.empty l0 x3_1) (rdOf ByteArray.empty l0 (ji5)) true _ A8.out).mono ?_); rintro e w' ⟨rfl, ⟨nd, rfl⟩⟩; (try first | exact ⟨rfl, _, World.drewN_drewN _ _ _⟩ | exact ⟨rfl, _, Eq.trans (World.drewN_drewN _ _ _) (congrArg (World.drewN _) (Nat.add_assoc _ _ _))⟩)))
         repeat (go_quiet (first | (go_at_call 57; (with_reducible refine (cmp_Less_string.calls (rdOf ByteArray.empty l0 x3_1) (rdOf ByteArray.empty l0 (ji5)) true _ A8.out).mono ?_); rintro e w' ⟨rfl, ⟨nd, rfl⟩⟩; (try first | exact ⟨rfl, _, World.drewN_drewN _ _ _⟩ | exact ⟨rfl, _, Eq.trans (World.drewN_drewN _ _ _) (congrArg (World.drewN _) (Nat.add_assoc _ _ _))⟩))); try go_wp2_with (first | (go_at_call 57; (with_reducible refine (cmp_Less_string.calls (rdOf ByteArray.empty l0 x3_1) (rdOf ByteArray.empty l0 (ji5)) true _ A8.out).mono ?_); rintro e w' ⟨rfl, ⟨nd, rfl⟩⟩; (try first | exact ⟨rfl, _, World.drewN_drewN _ _ _⟩ | exact ⟨rfl, _, Eq.trans (World.drewN_drewN _ _ _) (congrArg (World.drewN _) (Nat.add_assoc _ _ _))⟩))))
         go_ret
         exact ⟨by first | rfl | (simp; done) | (simp only [← hji5] <;> (first | rfl | simp)) | (simp [*]; done), by repeat (first | exact Drawn0.refl _ | apply Drawn0.step)⟩
        ·replace c9 := Bool.eq_false_iff.mpr c9
         subst c9
         have H1 : (slices_IsSorted_string_string.l0 k1 l0 ji5) = some r := by rw [if_neg (show ¬ (false = true) by decide)] at H; exact H
         clear H
         have H := H1
         clear H1
         have H' := Aside0.mk H
         clear H
         have p112 : 0 ≤ (x3_1 : Int) := of_decide_eq_true (by first | (with_reducible assumption) | assumption)
         have q112 : x3_1 < (l0.length : Int) := of_decide_eq_true (by first | (with_reducible assumption) | assumption)
         obtain ⟨ad112, e112, hx112_0⟩ := Kd.at_string HR0.out x3_1 p112 q112
         cases e112
         replace p112 := eq_true p112
         replace q112 := eq_true q112
         have p113 : 0 ≤ ((ji5) : Int) := of_decide_eq_true (by first | (with_reducible assumption) | assumption)
         have q113 : (ji5) < (l0.length : Int) := of_decide_eq_true (by first | (with_reducible assumption) | assumption)
         obtain ⟨ad113, e113, hx113_0⟩ := Kd.at_string HR0.out (ji5) p113 q113
         obtain rfl : ad112 = ad113 := (by injection e113)
         replace p113 := eq_true p113
         replace q113 := eq_true q113
         go_wp2_with (first | (go_at_call 57; (with_reducible refine (cmp_Less_string.calls (rdOf ByteArray.empty l0 x3_1) (rdOf ByteArray.empty l0 (ji5)) false _ A8.out).mono ?_); rintro e w' ⟨rfl, ⟨nd, rfl⟩⟩; (try first | exact ⟨rfl, _, World.drewN_drewN _ _ _⟩ | exact ⟨rfl, _, Eq.trans (World.drewN_drewN _ _ _) (congrArg (World.drewN _) (Nat.add_assoc _ _ _))⟩)))
         repeat (go_quiet (first | (go_at_call 57; (with_reducible refine (cmp_Less_string.calls (rdOf ByteArray.empty l0 x3_1) (rdOf ByteArray.empty l0 (ji5)) false _ A8.out).mono ?_); rintro e w' ⟨rfl, ⟨nd, rfl⟩⟩; (try first | exact ⟨rfl, _, World.drewN_drewN _ _ _⟩ | exact ⟨rfl, _, Eq.trans (World.drewN_drewN _ _ _) (congrArg (World.drewN _) (Nat.add_assoc _ _ _))⟩))); try go_wp2_with (first | (go_at_call 57; (with_reducible refine (cmp_Less_string.calls (rdOf ByteArray.empty l0 x3_1) (rdOf ByteArray.empty l0 (ji5)) false _ A8.out).mono ?_); rintro e w' ⟨rfl, ⟨nd, rfl⟩⟩; (try first | exact ⟨rfl, _, World.drewN_drewN _ _ _⟩ | exact ⟨rfl, _, Eq.trans (World.drewN_drewN _ _ _) (congrArg (World.drewN _) (Nat.add_assoc _ _ _))⟩))))
         go_roundg k1
         case measure => have := HK1.out; omega
         case rel => exact ⟨(ji5), (by first | rfl | (simp; done) | (simp only [← hji5] <;> (first | rfl | simp)) | (simp [*]; done)), H', ⟨by have := HK1.out; omega⟩, by repeat (first | exact Drawn0.refl _ | apply Drawn0.step)⟩
       ·rw [if_neg c7] at H
        exact absurd H (by simp)
      ·rw [if_neg c6] at H
       exact absurd H (by simp)
     ·rw [if_neg c4] at H
      exact absurd H (by simp)
    ·rw [if_neg c3] at H
     exact absurd H (by simp)
   ·rw [if_neg c2] at H
    have c2b0 : decide (0 < x3_1) = false := decide_eq_false c2
    clear c2
    obtain rfl := Option.some.inj H
    go_wp2
    repeat (go_quiet (fail); try go_wp2)
    go_ret
    exact ⟨by first | rfl | (simp; done) | (simp [*]; done) | (simp [Own.isEmpty_bne]; done), by repeat (first | exact Drawn0.refl _ | apply Drawn0.step)⟩

/-! ### slices_Clone_string_string: function 27 -/
def slices_Clone_string_string.f (l0 : List ByteArray) : Option (List ByteArray) := (some (([] : List ByteArray) : List ByteArray)).bind fun y115 => (if y115.length + l0.length < 8796093022208 then (some (y115 ++ l0)) else (none))
set_option maxHeartbeats 8000000 in
set_option maxRecDepth 100000 in
theorem slices_Clone_string_string.calls (A0 : Option Addr) (c0 : Nat) (l0 : List ByteArray) (r : List ByteArray) (w : World) (hr0 : Kd.C Kd.string w A0 l0.length l0) (hc0 : l0.length ≤ c0) (h : slices_Clone_string_string.f l0 = some r) :
  Calls Try.prog 27 #[.slice A0 l0.length c0] w fun e w' => ∃ v0_ : Value, e = .returned (v0_) ∧ Kd.R Kd.string 9 w' w.heap.size (fun _ => True) v0_ r ∧ Below w.heap.size w w' := by
 have hl := hr0.1
 cases A0 with
 | none =>
  have hl0 : l0 = [] := by
   cases l0 with
   | nil => rfl
   | cons a l => exact absurd (hr0.2.2 (by simp)) (by rintro ⟨_, h, _⟩; cases h)
  subst hl0
  obtain rfl : [] = r := by
   simp only [slices_Clone_string_string.f, Option.bind_some] at h
   rw [if_pos (by simp)] at h
   simpa using h
  have hnil := fun (n c : Nat) (w : World) => Lib.run_eql_slice_nil (P := Try.prog) w 22 9 none n c 0 0 Try.underlying22
  clear hl hr0 hc0 h
  go_enter Try.func27, Try.ntmps27
  go_wp2
  go_ret
  exact ⟨_, rfl, Kd.R_nil _ _ _ _ _, Below.refl _ _⟩
 | some a0 =>
  have hnil := fun (n c : Nat) (w : World) => Lib.run_eql_slice_nil (P := Try.prog) w 22 9 (some a0) n c 0 0 Try.underlying22
  clear hl
  have HR0 := Aside0.mk hr0
  have HC0 := Aside0.mk hc0
  clear hr0 hc0
  have HB := Aside0.mk (Below.refl w.heap.size w)
  have H : ((some (([] : List ByteArray) : List ByteArray)).bind fun y115 => (if y115.length + l0.length < 8796093022208 then (some (y115 ++ l0)) else (none))) = some r := h
  clear h
  obtain ⟨y115, hy115⟩ : ∃ y_ : List ByteArray, y_ = (([] : List ByteArray)) := ⟨_, rfl⟩
  replace H : (if y115.length + l0.length < 8796093022208 then (some (y115 ++ l0)) else (none)) = some r := by first | (rw [hy115]; with_reducible exact H) | (have H2_ := (Option.bind_some _ _).symm.trans H; rw [hy115]; with_reducible exact H2_) | (have H2_ := (Option.bind_some _ _).symm.trans H; with_reducible exact H2_) | with_reducible exact H | (rw [hy115]; exact H) | exact H
  have Ny115 := Aside0.mk hy115
  clear hy115
  by_cases c2 : y115.length + l0.length < 8796093022208
  ·rw [if_pos c2] at H
   have LMc2 := Aside0.mk c2
   clear c2
   obtain ⟨y118, hy118⟩ : ∃ y_ : List ByteArray, y_ = (y115 ++ l0) := ⟨_, rfl⟩
   replace H : (some y118) = some r := by first | (rw [hy118]; with_reducible exact H) | (have H2_ := (Option.bind_some _ _).symm.trans H; rw [hy118]; with_reducible exact H2_) | (have H2_ := (Option.bind_some _ _).symm.trans H; with_reducible exact H2_) | with_reducible exact H | (rw [hy118]; exact H) | exact H
   have Ny118 := Aside0.mk hy118
   clear hy118
   obtain rfl := Option.some.inj H
   go_enter Try.func27, Try.ntmps27
   go_wp2_with (first | ((with_reducible refine gate_dst (N := 5) rfl ?_); refine Kd.R_lit Kd.string _ 9 ?hg (N := 5) ?hd (xs := ([] : List ByteArray)) (inner := []) (ok := fun _ => True) (okp := fun _ => True) ?hr ?hp (fun _ hk => hk) trivial (Below.refl _ _) (Nat.le_refl _) (by simp) ?_; (case hd => rfl); (case hg => rfl); (case hr => first | (go_simp; done) | (go_simp; rfl)); (case hp => exact (Reps.none _ _)); intro v116 w3 ho4 hb hg_ hnew_; clear hg_ hnew_; (first | rw [← Ny115.out] at ho4 | (simp only [Int.reduceToNat] at ho4; rw [← Ny115.out] at ho4)); have n0_ := Aside0.mk (Kd.R_lower ho4 (below_size (by repeat (first | (with_reducible first | exact HB.out | apply below_alloc | apply pw_below_drewN | apply below_drew1) | exact HB.out)))); have n1_ := Aside0.mk (below_step (by repeat (first | (with_reducible first | exact HB.out | apply below_alloc | apply pw_below_drewN | apply below_drew1) | exact HB.out)) hb); clear HB; have HO117 := n0_; have HB := n1_; clear n0_ n1_; clear hb ho4) | ((with_reducible refine gate_builtin (b := .append) (xs := #[.tmp 5, .tmp 6]) rfl ?_); at_builtin; refine Kd.R_append_rows Kd.string (w0 := w) w.heap.size rfl (.tmp 5) (.tmp 6) 22 9 (.string ⟨#[]⟩) 16 rfl Try.underlying22 info9 rfl (by decide) (by omega) v116 y115 l0 _ _ _ (fun _ => True) (fun _ => False) rfl rfl ?aO ?aR (fun _ _ h => h) (fun _ h => h.elim) ?aF ?aB ?aS ?aL ?_; (case aR => repeat (first | exact (Kd.C_below HR0.out HB.out) | (with_reducible refine Kd.C_alloc ?_ _) | (with_reducible refine Kd.C_drewN ?_ _) | (with_reducible refine Kd.C_drew ?_))); (case aB => exact (by repeat (first | (with_reducible first | exact HB.out | apply below_alloc | apply pw_below_drewN | apply below_drew1) | exact HB.out))); (case aF => exact (fun _ _ => trivial)); (case aO => exact (by (with_reducible repeat (first | apply Kd.R_alloc | apply Kd.R_drewN | apply Kd.R_drew)); exact HO117.out)); (case aS => exact (below_size (by repeat (first | (with_reducible first | exact HB.out | apply below_alloc | apply pw_below_drewN | apply below_drew1) | exact HB.out)))); (case aL => have := LMc2.out; omega); intro v119 w5 ho hb hg hat; rw [← Ny118.out] at ho; have n0_ := Aside0.mk (hb); have n1_ := Aside0.mk (ho); clear HB; clear HO117; have HB := n0_; have HO120 := n1_; clear n0_ n1_; clear ho hb hg hat))
   go_ret
   exact ⟨_, by first | rfl | (simp [errW_none, errW_some] <;> rfl) | (simp [*, errW_none, errW_some] <;> rfl), by (with_reducible repeat (first | apply Kd.R_alloc | apply Kd.R_drewN | apply Kd.R_drew)); exact HO120.out, by repeat (first | (with_reducible first | exact HB.out | apply below_alloc | apply pw_below_drewN | apply below_drew1) | exact HB.out)⟩
  ·rw [if_neg c2] at H
   exact absurd H (by simp)


/-! ### slices_Clone_int_int: function 28 -/
def slices_Clone_int_int.f (l0 : List Int) : Option (List Int) := (some (([] : List Int) : List Int)).bind fun y121 => (if y121.length + l0.length < 17592186044416 then (some (y121 ++ l0)) else (none))
set_option maxHeartbeats 8000000 in
set_option maxRecDepth 100000 in
theorem slices_Clone_int_int.calls (A0 : Option Addr) (c0 : Nat) (l0 : List Int) (r : List Int) (w : World) (hr0 : Kd.C (Kd.int .i64) w A0 l0.length l0) (hc0 : l0.length ≤ c0) (h : slices_Clone_int_int.f l0 = some r) :
  Calls Try.prog 28 #[.slice A0 l0.length c0] w fun e w' => ∃ v0_ : Value, e = .returned (v0_) ∧ Kd.R (Kd.int .i64) 3 w' w.heap.size (fun _ => True) v0_ r ∧ Below w.heap.size w w' := by
 have hl := hr0.1
 cases A0 with
 | none =>
  have hl0 : l0 = [] := by
   cases l0 with
   | nil => rfl
   | cons a l => exact absurd (hr0.2.2 (by simp)) (by rintro ⟨_, h, _⟩; cases h)
  subst hl0
  obtain rfl : [] = r := by
   simp only [slices_Clone_int_int.f, Option.bind_some] at h
   rw [if_pos (by simp)] at h
   simpa using h
  have hnil := fun (n c : Nat) (w : World) => Lib.run_eql_slice_nil (P := Try.prog) w 23 3 none n c 0 0 Try.underlying23
  clear hl hr0 hc0 h
  go_enter Try.func28, Try.ntmps28
  go_wp2
  go_ret
  exact ⟨_, rfl, Kd.R_nil _ _ _ _ _, Below.refl _ _⟩
 | some a0 =>
  have hnil := fun (n c : Nat) (w : World) => Lib.run_eql_slice_nil (P := Try.prog) w 23 3 (some a0) n c 0 0 Try.underlying23
  clear hl
  have HR0 := Aside0.mk hr0
  have HC0 := Aside0.mk hc0
  clear hr0 hc0
  have HB := Aside0.mk (Below.refl w.heap.size w)
  have H : ((some (([] : List Int) : List Int)).bind fun y121 => (if y121.length + l0.length < 17592186044416 then (some (y121 ++ l0)) else (none))) = some r := h
  clear h
  obtain ⟨y121, hy121⟩ : ∃ y_ : List Int, y_ = (([] : List Int)) := ⟨_, rfl⟩
  replace H : (if y121.length + l0.length < 17592186044416 then (some (y121 ++ l0)) else (none)) = some r := by first | (rw [hy121]; with_reducible exact H) | (have H2_ := (Option.bind_some _ _).symm.trans H; rw [hy121]; with_reducible exact H2_) | (have H2_ := (Option.bind_some _ _).symm.trans H; with_reducible exact H2_) | with_reducible exact H | (rw [hy121]; exact H) | exact H
  have Ny121 := Aside0.mk hy121
  clear hy121
  by_cases c2 : y121.length + l0.length < 17592186044416
  ·rw [if_pos c2] at H
   have LMc2 := Aside0.mk c2
   clear c2
   obtain ⟨y124, hy124⟩ : ∃ y_ : List Int, y_ = (y121 ++ l0) := ⟨_, rfl⟩
   replace H : (some y124) = some r := by first | (rw [hy124]; with_reducible exact H) | (have H2_ := (Option.bind_some _ _).symm.trans H; rw [hy124]; with_reducible exact H2_) | (have H2_ := (Option.bind_some _ _).symm.trans H; with_reducible exact H2_) | with_reducible exact H | (rw [hy124]; exact H) | exact H
   have Ny124 := Aside0.mk hy124
   clear hy124
   obtain rfl := Option.some.inj H
   go_enter Try.func28, Try.ntmps28
   go_wp2_with (first | ((with_reducible refine gate_dst (N := 5) rfl ?_); refine Kd.R_lit (Kd.int .i64) _ 3 ?hg (N := 5) ?hd (xs := ([] : List Int)) (inner := []) (ok := fun _ => True) (okp := fun _ => True) ?hr ?hp (fun _ hk => hk) trivial (Below.refl _ _) (Nat.le_refl _) (by simp) ?_; (case hd => rfl); (case hg => rfl); (case hr => first | (go_simp; done) | (go_simp; rfl)); (case hp => exact (Reps.none _ _)); intro v122 w3 ho4 hb hg_ hnew_; clear hg_ hnew_; (first | rw [← Ny121.out] at ho4 | (simp only [Int.reduceToNat] at ho4; rw [← Ny121.out] at ho4)); have n0_ := Aside0.mk (Kd.R_lower ho4 (below_size (by repeat (first | (with_reducible first | exact HB.out | apply below_alloc | apply pw_below_drewN | apply below_drew1) | exact HB.out)))); have n1_ := Aside0.mk (below_step (by repeat (first | (with_reducible first | exact HB.out | apply below_alloc | apply pw_below_drewN | apply below_drew1) | exact HB.out)) hb); clear HB; have HO123 := n0_; have HB := n1_; clear n0_ n1_; clear hb ho4) | ((with_reducible refine gate_builtin (b := .append) (xs := #[.tmp 5, .tmp 6]) rfl ?_); at_builtin; refine Kd.R_append_rows (Kd.int .i64) (w0 := w) w.heap.size rfl (.tmp 5) (.tmp 6) 23 3 (.int .i64 0) 8 rfl Try.underlying23 info3 rfl (by decide) (by omega) v122 y121 l0 _ _ _ (fun _ => True) (fun _ => False) rfl rfl ?aO ?aR (fun _ _ h => h) (fun _ h => h.elim) ?aF ?aB ?aS ?aL ?_; (case aR => repeat (first | exact (Kd.C_below HR0.out HB.out) | (with_reducible refine Kd.C_alloc ?_ _) | (with_reducible refine Kd.C_drewN ?_ _) | (with_reducible refine Kd.C_drew ?_))); (case aB => exact (by repeat (first | (with_reducible first | exact HB.out | apply below_alloc | apply pw_below_drewN | apply below_drew1) | exact HB.out))); (case aF => exact (fun _ _ => trivial)); (case aO => exact (by (with_reducible repeat (first | apply Kd.R_alloc | apply Kd.R_drewN | apply Kd.R_drew)); exact HO123.out)); (case aS => exact (below_size (by repeat (first | (with_reducible first | exact HB.out | apply below_alloc | apply pw_below_drewN | apply below_drew1) | exact HB.out)))); (case aL => have := LMc2.out; omega); intro v125 w5 ho hb hg hat; rw [← Ny124.out] at ho; have n0_ := Aside0.mk (hb); have n1_ := Aside0.mk (ho); clear HB; clear HO123; have HB := n0_; have HO126 := n1_; clear n0_ n1_; clear ho hb hg hat))
   go_ret
   exact ⟨_, by first | rfl | (simp [errW_none, errW_some] <;> rfl) | (simp [*, errW_none, errW_some] <;> rfl), by (with_reducible repeat (first | apply Kd.R_alloc | apply Kd.R_drewN | apply Kd.R_drew)); exact HO126.out, by repeat (first | (with_reducible first | exact HB.out | apply below_alloc | apply pw_below_drewN | apply below_drew1) | exact HB.out)⟩
  ·rw [if_neg c2] at H
   exact absurd H (by simp)


/-! ### impl_hits: function 46 -/
def impl_hits.l0 : Nat → List Int → List Int → List (S39) → Int → Int → Option ((List (S39)))
 | 0, _, _, _, _, _ => none
 | k + 1, x0, x1, x5, x8, x9 => if x9 < x8 then (if 0 ≤ x9 then (if x9 < (x0.length : Int) then (if x9 < (x1.length : Int) then (if x5.length < 8796093022208 then (impl_hits.l0 k x0 x1 (x5 ++ [(⟨rd x0 x9, rd x1 x9⟩ : S39)]) x8 (wrap64 (x9 + 1))) else (none)) else (none)) else (none)) else (none)) else (some x5)
def impl_hits.f (k : Nat) (l0 : List Int) (l1 : List Int) : Option ((List (S39))) := impl_hits.l0 k l0 l1 ([] : List (S39)) (l0.length : Int) 0
theorem impl_hits.mono_l : ∀ k, (∀ y0 y1 y2 y3 y4, LeO (impl_hits.l0 k y0 y1 y2 y3 y4) (impl_hits.l0 (k + 1) y0 y1 y2 y3 y4))
 | 0 => fun _ _ _ _ _ r h => by simp [impl_hits.l0] at h
 | k + 1 => by
  have ih0 := impl_hits.mono_l k
  ·intro y0 y1 y2 y3 y4
   unfold impl_hits.l0
   repeat' first
   | (with_reducible exact ih0 _ _ _ _ _)
   | (with_reducible exact LeO.refl _)
   | (with_reducible exact LeO.none _)
   | (with_reducible refine LeO.ite ?_ ?_)
   | (with_reducible refine LeO.bind ?_ (fun _ => ?_))
   | exact ih0 _ _ _ _ _
   | exact LeO.none _
   | refine LeO.ite ?_ ?_
   | refine LeO.bind ?_ (fun _ => ?_)
theorem impl_hits.mono : ∀ a0 a1 k, LeO (impl_hits.f k a0 a1) (impl_hits.f (k + 1) a0 a1) := by
 intro a0 a1 k
 have ih0 := impl_hits.mono_l k
 unfold impl_hits.f
 repeat' first
   | (with_reducible exact ih0 _ _ _ _ _)
   | (with_reducible exact LeO.refl _)
   | (with_reducible exact LeO.none _)
   | (with_reducible refine LeO.ite ?_ ?_)
   | (with_reducible refine LeO.bind ?_ (fun _ => ?_))
   | exact ih0 _ _ _ _ _
   | exact LeO.none _
   | refine LeO.ite ?_ ?_
   | refine LeO.bind ?_ (fun _ => ?_)
def impl_hits.T5 : Bool × List (List Nat × List Nat) := (true, [([], []), ([], []), ([], []), ([1, 2], [1, 2]), ([3], [3]), ([], []), ([], []), ([5, 6], [5, 6]), ([7], [7]), ([4, 8], [4, 8]), ([9], [9]), ([0, 10], [0, 10]), ([11, 11, 0, 1, 2, 3, 4, 5, 6, 7, 8, 9, 10, 11], [0, 11])])
def impl_hits.B5 : List Nat := [0, 0, 0, 6, 14, 0, 0, 96, 224, 510, 1022, 2047, 4095]
theorem impl_hits.tab5 : rtab .any (opsOf Try.f46 5) = impl_hits.T5 := by kernel_rfl
theorem impl_hits.bits5 : waitsOk impl_hits.T5.2 impl_hits.B5 = true := by kernel_rfl
set_option maxHeartbeats 8000000 in
set_option maxRecDepth 100000 in
theorem impl_hits.calls (k : Nat) (A0 : Option Addr) (c0 : Nat) (l0 : List Int) (A1 : Option Addr) (c1 : Nat) (l1 : List Int) (r : List (S39)) (w : World) (hr0 : Kd.C (Kd.int .i64) w A0 l0.length l0) (hc0 : l0.length ≤ c0) (hr1 : Kd.C (Kd.int .i64) w A1 l1.length l1) (hc1 : l1.length ≤ c1) (h : impl_hits.f k l0 l1 = some r) :
  Calls Try.prog 46 #[.slice A0 l0.length c0, .slice A1 l1.length c1] w fun e w' => ∃ v0_ : Value, e = .returned (v0_) ∧ Kd.R k39 39 w' w.heap.size (fun _ => True) v0_ r ∧ Below w.heap.size w w' := by
 have hu39 := Try.underlying39
 have HR0 := Aside0.mk hr0
 have HC0 := Aside0.mk hc0
 clear hr0 hc0
 have HR1 := Aside0.mk hr1
 have HC1 := Aside0.mk hc1
 clear hr1 hc1
 have HB := Aside0.mk (Below.refl w.heap.size w)
 have H : (impl_hits.l0 k l0 l1 ([] : List (S39)) (l0.length : Int) 0) = some r := h
 clear h
 have H' := Aside0.mk H
 clear H
 go_enter Try.func46, Try.ntmps46
 go_wp2
 go_loopg [5, 9] k (fun kq v5 v9 w' => ∃ (x5_1 : List (S39)) (x9_1 : Int), v9 = .int .i64 x9_1 ∧ Aside0 (impl_hits.l0 kq l0 l1 x5_1 (l0.length : Int) x9_1 = some r) ∧ Aside0 (kq ≤ k) ∧ Aside0 (Kd.R k39 39 w' w.heap.size (fun _ => True) v5 x5_1) ∧ Aside0 (Below w.heap.size w w'))
 case atStart => exact ⟨(([] : List (S39))), (0), (by first | rfl | (simp; done) | (simp [*]; done)), H', ⟨Nat.le_refl _⟩, ⟨by first | exact Kd.R_nil _ _ _ _ _ | exact Kd.N_nil _ _ _ _ _ | exact Kd.V_nil _ _ _ _ _ | exact Kd.Q_nil _ _ _ _ _ | exact Kd.S_nil _ _ _ _ _⟩, ⟨by repeat (first | (with_reducible first | exact HB.out | apply below_alloc | apply pw_below_drewN | apply below_drew1) | exact HB.out)⟩⟩
 case round =>
  clear H'
  try clear c1
  try clear p2
  obtain ⟨x5_1, x9_1, rfl, HA, HK1, HO_5, HB⟩ := hrel
  cases gk with
  | zero => exact absurd HA.out (by simp [impl_hits.l0])
  | succ k1 =>
   have H := HA.out
   clear HA
   simp only [impl_hits.l0] at H
   by_cases c3 : x9_1 < (l0.length : Int)
   ·rw [if_pos c3] at H
    have c3b0 : decide (x9_1 < (l0.length : Int)) = true := decide_eq_true c3
    clear c3
    by_cases c4 : 0 ≤ x9_1
    ·rw [if_pos c4] at H
     have c4b0 : decide (0 ≤ x9_1) = true := decide_eq_true c4
     clear c4
     by_cases c5 : x9_1 < (l0.length : Int)
     ·rw [if_pos c5] at H
      have c5b0 : decide (x9_1 < (l0.length : Int)) = true := decide_eq_true c5
      clear c5
      by_cases c6 : x9_1 < (l1.length : Int)
      ·rw [if_pos c6] at H
       have c6b0 : decide (x9_1 < (l1.length : Int)) = true := decide_eq_true c6
       clear c6
       by_cases c7 : x5_1.length < 8796093022208
       ·rw [if_pos c7] at H
        have LMc7 := Aside0.mk c7
        clear c7
        obtain ⟨y129, hy129⟩ : ∃ y_ : List (S39), y_ = (x5_1 ++ [(⟨rd l0 x9_1, rd l1 x9_1⟩ : S39)]) := ⟨_, rfl⟩
        replace H : (impl_hits.l0 k1 l0 l1 y129 (l0.length : Int) (wrap64 (x9_1 + 1))) = some r := by first | (rw [hy129]; with_reducible exact H) | (have H2_ := (Option.bind_some _ _).symm.trans H; rw [hy129]; with_reducible exact H2_) | (have H2_ := (Option.bind_some _ _).symm.trans H; with_reducible exact H2_) | with_reducible exact H | (rw [hy129]; exact H) | exact H
        have Ny129 := Aside0.mk hy129
        clear hy129
        have H' := Aside0.mk H
        clear H
        try go_wp2
        have n0_ := Aside0.mk (Kd.R_drew HO_5.out)
        have n1_ := Aside0.mk (below_drew1 HB.out)
        clear HO_5
        clear HB
        have HO_5 := n0_
        have HB := n1_
        clear n0_ n1_
        have p127 : 0 ≤ (x9_1 : Int) := of_decide_eq_true (by first | (with_reducible assumption) | assumption)
        have q127 : x9_1 < (l0.length : Int) := of_decide_eq_true (by first | (with_reducible assumption) | assumption)
        obtain ⟨ad127, e127, hx127_0⟩ := Kd.at_int HR0.out x9_1 p127 q127
        have hw127_0 := hx127_0
        cases e127
        replace hx127_0 := (HB.out.cell (World.block_lt_of_cell? w _ hx127_0)).trans hx127_0
        replace p127 := eq_true p127
        replace q127 := eq_true q127
        have p128 : 0 ≤ (x9_1 : Int) := of_decide_eq_true (by first | (with_reducible assumption) | assumption)
        have q128 : x9_1 < (l1.length : Int) := of_decide_eq_true (by first | (with_reducible assumption) | assumption)
        obtain ⟨ad128, e128, hx128_0⟩ := Kd.at_int HR1.out x9_1 p128 q128
        have hw128_0 := hx128_0
        cases e128
        replace hx128_0 := (HB.out.cell (World.block_lt_of_cell? w _ hx128_0)).trans hx128_0
        replace p128 := eq_true p128
        replace q128 := eq_true q128
        refine start_ (n := 13) (S := fun w' => w'.cell? (ad127.add (x9_1).toNat) = some (.int .i64 (rd l0 x9_1)) ∧ w'.cell? (ad128.add (x9_1).toNat) = some (.int .i64 (rd l1 x9_1))) (ds := []) #[false, false, false, false, false, false, false, false, false, false, false, false, false] (by kernel_rfl) rfl rfl ⟨((HB.out.cell (World.block_lt_of_cell? w _ hw127_0)).trans hw127_0), ((HB.out.cell (World.block_lt_of_cell? w _ hw128_0)).trans hw128_0)⟩ (fun hHeld => ?_); refine with_tabW impl_hits.tab5 impl_hits.bits5 (fun HT_ HW_ => ?_)
        generalize wr.drew = w8 at HO_5 HB hx127_0 hx128_0 hHeld ⊢
        refine pure_ (i := 0) (N := some 12) (v := ?_) (a' := ?_) #[true, false, false, false, false, false, false, false, false, false, false, false, false] rfl rfl (any_of HT_.out (by kernel_rfl)) (fun _ _ _ h => h) (Or.inl ⟨by rfl, ?_⟩) ?_ ?_
        rotate_left
        ·intro w'
         go_simp
         with_reducible rfl
        rotate_left
        ·simp only [Act.put, List.setIfInBounds_toArray, List.set_cons_zero, List.set_cons_succ, i64_w, i32_w]
         rfl
        refine pure_ (i := 1) (N := some 13) (v := ?_) (a' := ?_) #[true, true, false, false, false, false, false, false, false, false, false, false, false] rfl rfl (any_of HT_.out (by kernel_rfl)) (fun _ _ _ h => h) (Or.inl ⟨by rfl, ?_⟩) ?_ ?_
        rotate_left
        ·intro w'
         go_simp
         with_reducible rfl
        rotate_left
        ·simp only [Act.put, List.setIfInBounds_toArray, List.set_cons_zero, List.set_cons_succ, i64_w, i32_w]
         rfl
        refine pure_ (i := 2) (N := some 14) (v := ?_) (a' := ?_) #[true, true, true, false, false, false, false, false, false, false, false, false, false] rfl rfl (any_of HT_.out (by kernel_rfl)) (fun _ _ _ h => h) (Or.inl ⟨by rfl, ?_⟩) ?_ ?_
        rotate_left
        ·intro w'
         go_simp
         with_reducible rfl
        rotate_left
        ·simp only [Act.put, List.setIfInBounds_toArray, List.set_cons_zero, List.set_cons_succ, i64_w, i32_w]
         rfl
        refine pure_ (i := 3) (N := some 15) (v := ?_) (a' := ?_) #[true, true, true, true, false, false, false, false, false, false, false, false, false] rfl rfl (any_of HT_.out (by kernel_rfl)) (fun _ _ _ h => h) (Or.inl ⟨by rfl, ?_⟩) ?_ ?_
        rotate_left
        ·intro w'
         go_simp
         with_reducible rfl
        rotate_left
        ·simp only [Act.put, List.setIfInBounds_toArray, List.set_cons_zero, List.set_cons_succ, i64_w, i32_w]
         rfl
        refine pure_ (i := 5) (N := some 17) (v := ?_) (a' := ?_) #[true, true, true, true, false, true, false, false, false, false, false, false, false] rfl rfl (any_of HT_.out (by kernel_rfl)) (fun _ _ _ h => h) (Or.inl ⟨by rfl, ?_⟩) ?_ ?_
        rotate_left
        ·intro w'
         go_simp
         with_reducible rfl
        rotate_left
        ·simp only [Act.put, List.setIfInBounds_toArray, List.set_cons_zero, List.set_cons_succ, i64_w, i32_w]
         rfl
        refine pure_ (i := 6) (N := some 18) (v := ?_) (a' := ?_) #[true, true, true, true, false, true, true, false, false, false, false, false, false] rfl rfl (any_of HT_.out (by kernel_rfl)) (fun _ _ _ h => h) (Or.inl ⟨by rfl, ?_⟩) ?_ ?_
        rotate_left
        ·intro w'
         go_simp
         with_reducible rfl
        rotate_left
        ·simp only [Act.put, List.setIfInBounds_toArray, List.set_cons_zero, List.set_cons_succ, i64_w, i32_w]
         rfl
        refine pure_ (i := 7) (N := some 19) (v := ?_) (a' := ?_) #[true, true, true, true, false, true, true, true, false, false, false, false, false] rfl rfl (any_of HT_.out (by kernel_rfl)) (fun _ _ _ h => h) (Or.inl ⟨by rfl, ?_⟩) ?_ ?_
        rotate_left
        ·intro w'
         go_simp
         with_reducible rfl
        rotate_left
        ·simp only [Act.put, List.setIfInBounds_toArray, List.set_cons_zero, List.set_cons_succ, i64_w, i32_w]
         rfl
        refine take_ (i := 4) (N := some 16) (v := ?_) (a' := ?_) #[true, true, true, true, true, true, true, true, false, false, false, false, false] rfl rfl (take_ofW HT_.out HW_.out (by kernel_rfl)) (fun _ _ _ h => h) (Or.inl ⟨by rfl, ?_⟩) hHeld ?_ ?_
        rotate_left
        ·rintro w' ⟨s0, s1⟩
         go_simp
         with_reducible rfl
        rotate_left
        ·simp only [Act.put, List.setIfInBounds_toArray, List.set_cons_zero, List.set_cons_succ, i64_w, i32_w]
         rfl
        refine take_ (i := 8) (N := some 20) (v := ?_) (a' := ?_) #[true, true, true, true, true, true, true, true, true, false, false, false, false] rfl rfl (take_ofW HT_.out HW_.out (by kernel_rfl)) (fun _ _ _ h => h) (Or.inl ⟨by rfl, ?_⟩) hHeld ?_ ?_
        rotate_left
        ·rintro w' ⟨s0, s1⟩
         go_simp
         with_reducible rfl
        rotate_left
        ·simp only [Act.put, List.setIfInBounds_toArray, List.set_cons_zero, List.set_cons_succ, i64_w, i32_w]
         rfl
        refine pure_ (i := 9) (N := some 21) (v := ?_) (a' := ?_) #[true, true, true, true, true, true, true, true, true, true, false, false, false] rfl rfl (any_of HT_.out (by kernel_rfl)) (fun _ _ _ h => h) (Or.inl ⟨by rfl, ?_⟩) ?_ ?_
        rotate_left
        ·intro w'
         go_simp
         with_reducible rfl
        rotate_left
        ·simp only [Act.put, List.setIfInBounds_toArray, List.set_cons_zero, List.set_cons_succ, i64_w, i32_w]
         rfl
        refine one_ (i := 10) (N := some 22) #[true, true, true, true, true, true, true, true, true, true, true, false, false] rfl rfl (one_of HT_.out (by kernel_rfl)) (by decide) (fun K hK => ?_)
        refine value_ (w1 := ?_) (v := ?_) (by rfl) rfl ?_ ?_
        rotate_left 2
        ·go_simp
         constructor
         ·rfl
         ·rfl
        refine hK.out _ _ ⟨(World.cell?_alloc_lt _ _ _ (World.block_lt_of_cell? _ _ (((HB.out.cell (World.block_lt_of_cell? w _ hw127_0)).trans hw127_0)))).trans (((HB.out.cell (World.block_lt_of_cell? w _ hw127_0)).trans hw127_0)), (World.cell?_alloc_lt _ _ _ (World.block_lt_of_cell? _ _ (((HB.out.cell (World.block_lt_of_cell? w _ hw128_0)).trans hw128_0)))).trans (((HB.out.cell (World.block_lt_of_cell? w _ hw128_0)).trans hw128_0))⟩ (fun hHeld => ?_)
        clear hK K
        refine norm_ (a' := ?_) ?_ ?_
        rotate_left
        ·show Act.put _ (some 22) _ = _
         simp only [Act.put, List.setIfInBounds_toArray, List.set_cons_zero, List.set_cons_succ, i64_w, i32_w]
         rfl
        refine one_ (i := 11) (N := some 23) #[true, true, true, true, true, true, true, true, true, true, true, true, false] rfl rfl (one_of HT_.out (by kernel_rfl)) (by decide) (fun K hK => ?_)
        refine Kd.R_append_step k39 (w0 := w) w.heap.size (by rfl) (.tmp 12) (.tmp 22) 32 39 (.agg #[(.int .i64 0), (.int .i64 0)]) 16 rfl Try.underlying32 info39 rfl (by decide) (by omega) u5 x5_1 (⟨rd l0 x9_1, rd l1 x9_1⟩ : S39) [.int .i64 (rd l0 x9_1), .int .i64 (rd l1 x9_1)] (fun _ => True) (fun _ => False) rfl rfl ?aP (fun _ hk => hk.elim) ?aF ?aO ?aB ?aS ?aL ?_
        (case aP => exact k39_mkM _ _ _ (⟨rd l0 x9_1, rd l1 x9_1⟩ : S39))
        (case aB => exact (by repeat (first | (with_reducible first | exact HB.out | apply below_alloc | apply pw_below_drewN | apply below_drew1) | exact HB.out)))
        (case aF => exact (fun _ _ => trivial))
        (case aO => exact (by (with_reducible repeat (first | apply Kd.R_alloc | apply Kd.R_drewN | apply Kd.R_drew)); exact HO_5.out))
        (case aS => exact (below_size (by repeat (first | (with_reducible first | exact HB.out | apply below_alloc | apply pw_below_drewN | apply below_drew1) | exact HB.out))))
        (case aL => have := LMc7.out; omega)
        intro v130 w9 ho hb hg hat
        rw [← Ny129.out] at ho
        have n0_ := Aside0.mk (hb)
        have n1_ := Aside0.mk (ho)
        clear HB
        clear HO_5
        have HB := n0_
        have HO131 := n1_
        clear n0_ n1_
        clear ho hb hg hat
        refine hK.out _ _ ⟨((HB.out.cell (World.block_lt_of_cell? w _ hw127_0)).trans hw127_0), ((HB.out.cell (World.block_lt_of_cell? w _ hw128_0)).trans hw128_0)⟩ (fun hHeld => ?_)
        clear hK K
        refine norm_ (a' := ?_) ?_ ?_
        rotate_left
        ·show Act.put _ (some 23) _ = _
         simp only [Act.put, List.setIfInBounds_toArray, List.set_cons_zero, List.set_cons_succ, i64_w, i32_w]
         rfl
        refine pure_ (i := 12) (N := some 5) (v := ?_) (a' := ?_) #[true, true, true, true, true, true, true, true, true, true, true, true, true] rfl rfl (any_of HT_.out (by kernel_rfl)) (fun _ _ _ h => h) (Or.inl ⟨by rfl, ?_⟩) ?_ ?_
        rotate_left
        ·intro w'
         go_simp
         with_reducible rfl
        rotate_left
        ·simp only [Act.put, List.setIfInBounds_toArray, List.set_cons_zero, List.set_cons_succ, i64_w, i32_w]
         rfl
        refine done_ (done_of HT_.out (by kernel_rfl)) ?_
        try go_wp2
        go_roundg k1
        case measure => have := HK1.out; omega
        case rel => exact ⟨(y129), (wrap64 (x9_1 + 1)), (by first | rfl | (simp; done) | (simp [*]; done)), H', ⟨by have := HK1.out; omega⟩, ⟨by (with_reducible repeat (first | apply Kd.R_alloc | apply Kd.R_drewN | apply Kd.R_drew)); exact HO131.out⟩, ⟨by repeat (first | (with_reducible first | exact HB.out | apply below_alloc | apply pw_below_drewN | apply below_drew1) | exact HB.out)⟩⟩
       ·rw [if_neg c7] at H
        exact absurd H (by simp)
      ·rw [if_neg c6] at H
       exact absurd H (by simp)
     ·rw [if_neg c5] at H
      exact absurd H (by simp)
    ·rw [if_neg c4] at H
     exact absurd H (by simp)
   ·rw [if_neg c3] at H
    have c3b0 : decide (x9_1 < (l0.length : Int)) = false := decide_eq_false c3
    clear c3
    obtain rfl := Option.some.inj H
    go_wp2
    go_ret
    exact ⟨_, by first | rfl | (simp [errW_none, errW_some] <;> rfl) | (simp [*, errW_none, errW_some] <;> rfl), by (with_reducible repeat (first | apply Kd.R_alloc | apply Kd.R_drewN | apply Kd.R_drew)); exact HO_5.out, by repeat (first | (with_reducible first | exact HB.out | apply below_alloc | apply pw_below_drewN | apply below_drew1) | exact HB.out)⟩

/-! ### laws_sameFound: function 50 -/
def laws_sameFound.f (a0_0 : Int) (a0_1 : Bool) (a1_0 : Int) (a1_1 : Bool) : Option (Bool) := if (a0_1 == a1_1) = true then (if a0_1 = true then (some (a0_0 == a1_0)) else (some true)) else (some false)
set_option maxHeartbeats 8000000 in
set_option maxRecDepth 100000 in
theorem laws_sameFound.calls (a0_0 : Int) (a0_1 : Bool) (a1_0 : Int) (a1_1 : Bool) (r : Bool) (w : World) (h : laws_sameFound.f a0_0 a0_1 a1_0 a1_1 = some r) :
  Calls Try.prog 50 #[.agg #[.int .i64 a0_0, .bool a0_1], .agg #[.int .i64 a1_0, .bool a1_1]] w fun e w' => e = .returned (.bool r) ∧ Below w.heap.size w w' := by
 have hu31 := Try.underlying31
 have HB := Aside0.mk (Below.refl w.heap.size w)
 have H : (if (a0_1 == a1_1) = true then (if a0_1 = true then (some (a0_0 == a1_0)) else (some true)) else (some false)) = some r := h
 clear h
 by_cases c3 : (a0_1 == a1_1) = true
 ·rw [if_pos c3] at H
  have c3b0 : (a0_1 == a1_1) = true := c3
  (try (have c3b1 : decide (a0_1 = a1_1) = true := by simpa using c3))
  (try (have c3b2 : (a0_1 == a1_1) = true := by simpa using c3))
  clear c3
  by_cases c4 : a0_1 = true
  ·subst c4
   have H1 : (some (a0_0 == a1_0)) = some r := by rw [if_pos rfl] at H; exact H
   clear H
   have H := H1
   clear H1
   obtain rfl := Option.some.inj H
   go_enter Try.func50, Try.ntmps50
   go_wp2_with (first | ((with_reducible refine gate_dst (N := 2) rfl ?_); refine box_event ?hg (N := 2) ?hd (cs := #[.int .i64 a0_0, .bool true]) (t := 31) ?hr ?_; (case hd => rfl); (case hg => rfl); (case hr => first | (go_simp; done) | (go_simp; rfl)); intro gb132 hg w5 hbox hb; have n0_ := Aside0.mk (below_step (by repeat (first | (with_reducible first | exact HB.out | apply below_alloc | apply pw_below_drewN | apply below_drew1) | exact HB.out)) hb); have n1_ := Aside0.mk (hbox); have n2_ := Aside0.mk ((by rw [hg]; exact (below_size (by repeat (first | (with_reducible first | exact HB.out | apply below_alloc | apply pw_below_drewN | apply below_drew1) | exact HB.out))) : w.heap.size ≤ gb132)); have n3_ := Aside0.mk ((by rw [hg]; exact (below_size (by repeat (first | (with_reducible first | exact HB.out | apply below_alloc | apply pw_below_drewN | apply below_drew1) | exact HB.out))) : w.heap.size ≤ gb132)); clear HB; have HB := n0_; have BK132 := n1_; have GW132 := n2_; have GE132 := n3_; clear n0_ n1_ n2_ n3_; clear hb hbox hg) | ((with_reducible refine gate_dst (N := 3) rfl ?_); refine box_event ?hg (N := 3) ?hd (cs := #[.int .i64 a1_0, .bool a1_1]) (t := 31) ?hr ?_; (case hd => rfl); (case hg => rfl); (case hr => first | (go_simp; done) | (go_simp; rfl)); intro gb133 hg w6 hbox hb; have n0_ := Aside0.mk (blk_below (g := gb132) (o := .cells #[.int .i64 a0_0, .bool true] 31 (0, 0)) (by (with_reducible repeat (first | refine blk_drewN ?_ _ | refine blk_drew ?_ | refine blk_alloc ?_ _)); exact BK132.out) hb); have n1_ := Aside0.mk (below_step (by repeat (first | (with_reducible first | exact HB.out | apply below_alloc | apply pw_below_drewN | apply below_drew1 | refine below_set ?_ GE132.out) | exact HB.out)) hb); have n2_ := Aside0.mk (hbox); have n3_ := Aside0.mk ((by rw [hg]; exact (below_size (by repeat (first | (with_reducible first | exact HB.out | apply below_alloc | apply pw_below_drewN | apply below_drew1 | refine below_set ?_ GE132.out) | exact HB.out))) : w.heap.size ≤ gb133)); have n4_ := Aside0.mk ((by rw [hg]; exact (below_size (by repeat (first | (with_reducible first | exact HB.out | apply below_alloc | apply pw_below_drewN | apply below_drew1 | refine below_set ?_ GE132.out) | exact HB.out))) : w.heap.size ≤ gb133)); have n5_ := Aside0.mk ((by rw [hg]; exact Nat.ne_of_lt (blk_lt (g := gb132) (o := .cells #[.int .i64 a0_0, .bool true] 31 (0, 0)) (by (with_reducible repeat (first | refine blk_drewN ?_ _ | refine blk_drew ?_ | refine blk_alloc ?_ _)); exact BK132.out)) : gb132 ≠ gb133)); have n6_ := Aside0.mk ((by rw [hg]; exact Nat.ne_of_gt (blk_lt (g := gb132) (o := .cells #[.int .i64 a0_0, .bool true] 31 (0, 0)) (by (with_reducible repeat (first | refine blk_drewN ?_ _ | refine blk_drew ?_ | refine blk_alloc ?_ _)); exact BK132.out)) : gb133 ≠ gb132)); clear BK132; clear HB; have BK132 := n0_; have HB := n1_; have BK133 := n2_; have GW133 := n3_; have GE133 := n4_; have NB132_133 := n5_; have NB133_132 := n6_; clear n0_ n1_ n2_ n3_ n4_ n5_ n6_; clear hb hbox hg; have hnb7 := NB132_133.out; have hnc7 := NB133_132.out; have hcz8_0 : w6.cell? ⟨gb132, 0, none⟩ = some (.int .i64 a0_0) := (blk_cell BK132.out 0).trans rfl; have hcz8_1 : w6.cell? ⟨gb132, 1, none⟩ = some (.bool true) := (blk_cell BK132.out 1).trans rfl; have hfz8_0 := blk_frozen BK132.out 0; have hfz8_1 := blk_frozen BK132.out 1; have hcz9_0 : w6.cell? ⟨gb133, 0, none⟩ = some (.int .i64 a1_0) := (blk_cell BK133.out 0).trans rfl; have hcz9_1 : w6.cell? ⟨gb133, 1, none⟩ = some (.bool a1_1) := (blk_cell BK133.out 1).trans rfl; have hfz9_0 := blk_frozen BK133.out 0; have hfz9_1 := blk_frozen BK133.out 1))
   go_ret
   exact ⟨by first | rfl | (simp [errW_none, errW_some] <;> rfl) | (simp [*, errW_none, errW_some] <;> rfl), by repeat (first | (with_reducible first | exact HB.out | apply below_alloc | apply pw_below_drewN | apply below_drew1 | refine below_set ?_ GE132.out | refine below_set ?_ GE133.out) | exact HB.out)⟩
  ·replace c4 := Bool.eq_false_iff.mpr c4
   subst c4
   have H1 : (some true) = some r := by rw [if_neg (show ¬ (false = true) by decide)] at H; exact H
   clear H
   have H := H1
   clear H1
   obtain rfl := Option.some.inj H
   go_enter Try.func50, Try.ntmps50
   go_wp2_with (first | ((with_reducible refine gate_dst (N := 2) rfl ?_); refine box_event ?hg (N := 2) ?hd (cs := #[.int .i64 a0_0, .bool false]) (t := 31) ?hr ?_; (case hd => rfl); (case hg => rfl); (case hr => first | (go_simp; done) | (go_simp; rfl)); intro gb132 hg w10 hbox hb; have n0_ := Aside0.mk (below_step (by repeat (first | (with_reducible first | exact HB.out | apply below_alloc | apply pw_below_drewN | apply below_drew1) | exact HB.out)) hb); have n1_ := Aside0.mk (hbox); have n2_ := Aside0.mk ((by rw [hg]; exact (below_size (by repeat (first | (with_reducible first | exact HB.out | apply below_alloc | apply pw_below_drewN | apply below_drew1) | exact HB.out))) : w.heap.size ≤ gb132)); have n3_ := Aside0.mk ((by rw [hg]; exact (below_size (by repeat (first | (with_reducible first | exact HB.out | apply below_alloc | apply pw_below_drewN | apply below_drew1) | exact HB.out))) : w.heap.size ≤ gb132)); clear HB; have HB := n0_; have BK132 := n1_; have GW132 := n2_; have GE132 := n3_; clear n0_ n1_ n2_ n3_; clear hb hbox hg) | ((with_reducible refine gate_dst (N := 3) rfl ?_); refine box_event ?hg (N := 3) ?hd (cs := #[.int .i64 a1_0, .bool a1_1]) (t := 31) ?hr ?_; (case hd => rfl); (case hg => rfl); (case hr => first | (go_simp; done) | (go_simp; rfl)); intro gb133 hg w11 hbox hb; have n0_ := Aside0.mk (blk_below (g := gb132) (o := .cells #[.int .i64 a0_0, .bool false] 31 (0, 0)) (by (with_reducible repeat (first | refine blk_drewN ?_ _ | refine blk_drew ?_ | refine blk_alloc ?_ _)); exact BK132.out) hb); have n1_ := Aside0.mk (below_step (by repeat (first | (with_reducible first | exact HB.out | apply below_alloc | apply pw_below_drewN | apply below_drew1 | refine below_set ?_ GE132.out) | exact HB.out)) hb); have n2_ := Aside0.mk (hbox); have n3_ := Aside0.mk ((by rw [hg]; exact (below_size (by repeat (first | (with_reducible first | exact HB.out | apply below_alloc | apply pw_below_drewN | apply below_drew1 | refine below_set ?_ GE132.out) | exact HB.out))) : w.heap.size ≤ gb133)); have n4_ := Aside0.mk ((by rw [hg]; exact (below_size (by repeat (first | (with_reducible first | exact HB.out | apply below_alloc | apply pw_below_drewN | apply below_drew1 | refine below_set ?_ GE132.out) | exact HB.out))) : w.heap.size ≤ gb133)); have n5_ := Aside0.mk ((by rw [hg]; exact Nat.ne_of_lt (blk_lt (g := gb132) (o := .cells #[.int .i64 a0_0, .bool false] 31 (0, 0)) (by (with_reducible repeat (first | refine blk_drewN ?_ _ | refine blk_drew ?_ | refine blk_alloc ?_ _)); exact BK132.out)) : gb132 ≠ gb133)); have n6_ := Aside0.mk ((by rw [hg]; exact Nat.ne_of_gt (blk_lt (g := gb132) (o := .cells #[.int .i64 a0_0, .bool false] 31 (0, 0)) (by (with_reducible repeat (first | refine blk_drewN ?_ _ | refine blk_drew ?_ | refine blk_alloc ?_ _)); exact BK132.out)) : gb133 ≠ gb132)); clear BK132; clear HB; have BK132 := n0_; have HB := n1_; have BK133 := n2_; have GW133 := n3_; have GE133 := n4_; have NB132_133 := n5_; have NB133_132 := n6_; clear n0_ n1_ n2_ n3_ n4_ n5_ n6_; clear hb hbox hg; have hnb12 := NB132_133.out; have hnc12 := NB133_132.out; have hcz13_0 : w11.cell? ⟨gb132, 0, none⟩ = some (.int .i64 a0_0) := (blk_cell BK132.out 0).trans rfl; have hcz13_1 : w11.cell? ⟨gb132, 1, none⟩ = some (.bool false) := (blk_cell BK132.out 1).trans rfl; have hfz13_0 := blk_frozen BK132.out 0; have hfz13_1 := blk_frozen BK132.out 1; have hcz14_0 : w11.cell? ⟨gb133, 0, none⟩ = some (.int .i64 a1_0) := (blk_cell BK133.out 0).trans rfl; have hcz14_1 : w11.cell? ⟨gb133, 1, none⟩ = some (.bool a1_1) := (blk_cell BK133.out 1).trans rfl; have hfz14_0 := blk_frozen BK133.out 0; have hfz14_1 := blk_frozen BK133.out 1))
   go_ret
   exact ⟨by first | rfl | (simp [errW_none, errW_some] <;> rfl) | (simp [*, errW_none, errW_some] <;> rfl), by repeat (first | (with_reducible first | exact HB.out | apply below_alloc | apply pw_below_drewN | apply below_drew1 | refine below_set ?_ GE132.out | refine below_set ?_ GE133.out) | exact HB.out)⟩
 ·rw [if_neg c3] at H
  have c3b0 : (a0_1 == a1_1) = false := by simpa using c3
  (try (have c3b1 : decide (a0_1 = a1_1) = false := by simpa using c3))
  (try (have c3b2 : (a0_1 == a1_1) = false := by simpa using c3))
  (try (have c3b3 : ¬ (a0_1 = a1_1) := by simpa using c3))
  clear c3
  obtain rfl := Option.some.inj H
  go_enter Try.func50, Try.ntmps50
  go_wp2_with (first | ((with_reducible refine gate_dst (N := 2) rfl ?_); refine box_event ?hg (N := 2) ?hd (cs := #[.int .i64 a0_0, .bool a0_1]) (t := 31) ?hr ?_; (case hd => rfl); (case hg => rfl); (case hr => first | (go_simp; done) | (go_simp; rfl)); intro gb132 hg w15 hbox hb; have n0_ := Aside0.mk (below_step (by repeat (first | (with_reducible first | exact HB.out | apply below_alloc | apply pw_below_drewN | apply below_drew1) | exact HB.out)) hb); have n1_ := Aside0.mk (hbox); have n2_ := Aside0.mk ((by rw [hg]; exact (below_size (by repeat (first | (with_reducible first | exact HB.out | apply below_alloc | apply pw_below_drewN | apply below_drew1) | exact HB.out))) : w.heap.size ≤ gb132)); have n3_ := Aside0.mk ((by rw [hg]; exact (below_size (by repeat (first | (with_reducible first | exact HB.out | apply below_alloc | apply pw_below_drewN | apply below_drew1) | exact HB.out))) : w.heap.size ≤ gb132)); clear HB; have HB := n0_; have BK132 := n1_; have GW132 := n2_; have GE132 := n3_; clear n0_ n1_ n2_ n3_; clear hb hbox hg) | ((with_reducible refine gate_dst (N := 3) rfl ?_); refine box_event ?hg (N := 3) ?hd (cs := #[.int .i64 a1_0, .bool a1_1]) (t := 31) ?hr ?_; (case hd => rfl); (case hg => rfl); (case hr => first | (go_simp; done) | (go_simp; rfl)); intro gb133 hg w16 hbox hb; have n0_ := Aside0.mk (blk_below (g := gb132) (o := .cells #[.int .i64 a0_0, .bool a0_1] 31 (0, 0)) (by (with_reducible repeat (first | refine blk_drewN ?_ _ | refine blk_drew ?_ | refine blk_alloc ?_ _)); exact BK132.out) hb); have n1_ := Aside0.mk (below_step (by repeat (first | (with_reducible first | exact HB.out | apply below_alloc | apply pw_below_drewN | apply below_drew1 | refine below_set ?_ GE132.out) | exact HB.out)) hb); have n2_ := Aside0.mk (hbox); have n3_ := Aside0.mk ((by rw [hg]; exact (below_size (by repeat (first | (with_reducible first | exact HB.out | apply below_alloc | apply pw_below_drewN | apply below_drew1 | refine below_set ?_ GE132.out) | exact HB.out))) : w.heap.size ≤ gb133)); have n4_ := Aside0.mk ((by rw [hg]; exact (below_size (by repeat (first | (with_reducible first | exact HB.out | apply below_alloc | apply pw_below_drewN | apply below_drew1 | refine below_set ?_ GE132.out) | exact HB.out))) : w.heap.size ≤ gb133)); have n5_ := Aside0.mk ((by rw [hg]; exact Nat.ne_of_lt (blk_lt (g := gb132) (o := .cells #[.int .i64 a0_0, .bool a0_1] 31 (0, 0)) (by (with_reducible repeat (first | refine blk_drewN ?_ _ | refine blk_drew ?_ | refine blk_alloc ?_ _)); exact BK132.out)) : gb132 ≠ gb133)); have n6_ := Aside0.mk ((by rw [hg]; exact Nat.ne_of_gt (blk_lt (g := gb132) (o := .cells #[.int .i64 a0_0, .bool a0_1] 31 (0, 0)) (by (with_reducible repeat (first | refine blk_drewN ?_ _ | refine blk_drew ?_ | refine blk_alloc ?_ _)); exact BK132.out)) : gb133 ≠ gb132)); clear BK132; clear HB; have BK132 := n0_; have HB := n1_; have BK133 := n2_; have GW133 := n3_; have GE133 := n4_; have NB132_133 := n5_; have NB133_132 := n6_; clear n0_ n1_ n2_ n3_ n4_ n5_ n6_; clear hb hbox hg; have hnb17 := NB132_133.out; have hnc17 := NB133_132.out; have hcz18_0 : w16.cell? ⟨gb132, 0, none⟩ = some (.int .i64 a0_0) := (blk_cell BK132.out 0).trans rfl; have hcz18_1 : w16.cell? ⟨gb132, 1, none⟩ = some (.bool a0_1) := (blk_cell BK132.out 1).trans rfl; have hfz18_0 := blk_frozen BK132.out 0; have hfz18_1 := blk_frozen BK132.out 1; have hcz19_0 : w16.cell? ⟨gb133, 0, none⟩ = some (.int .i64 a1_0) := (blk_cell BK133.out 0).trans rfl; have hcz19_1 : w16.cell? ⟨gb133, 1, none⟩ = some (.bool a1_1) := (blk_cell BK133.out 1).trans rfl; have hfz19_0 := blk_frozen BK133.out 0; have hfz19_1 := blk_frozen BK133.out 1))
  go_ret
  exact ⟨by first | rfl | (simp [errW_none, errW_some] <;> rfl) | (simp [*, errW_none, errW_some] <;> rfl), by repeat (first | (with_reducible first | exact HB.out | apply below_alloc | apply pw_below_drewN | apply below_drew1 | refine below_set ?_ GE132.out | refine below_set ?_ GE133.out) | exact HB.out)⟩

/-! ### laws_sameTrie: function 30 -/
def laws_sameTrie.f (k : Nat) (a0_0 : Int) (a0_1 : Bool) (a0_2 : Int) (a0_3 : Bool) (l0_4 : List (S39)) (l0_5 : List (S39)) (a1_0 : Int) (a1_1 : Bool) (a1_2 : Int) (a1_3 : Bool) (l1_4 : List (S39)) (l1_5 : List (S39)) (a2 : Bool) : Option (Bool) := if a2 = true then ((laws_sameFound.f a0_2 a0_3 a1_2 a1_3).bind fun t136 => (if t136 = true then ((impl_Hit.f k l0_4 l1_4).bind fun t137 => (if t137 = true then ((impl_Hit.f k l0_5 l1_5).bind fun t138 => (some t138)) else (some false))) else (some false))) else ((laws_sameFound.f a0_0 a0_1 a1_0 a1_1).bind fun t139 => (if t139 = true then ((laws_sameFound.f a0_2 a0_3 a1_2 a1_3).bind fun t140 => (if t140 = true then ((impl_Hit.f k l0_4 l1_4).bind fun t141 => (if t141 = true then ((impl_Hit.f k l0_5 l1_5).bind fun t142 => (some t142)) else (some false))) else (some false))) else (some false)))
theorem laws_sameTrie.mono : ∀ a0 a1 a2 a3 a4 a5 a6 a7 a8 a9 a10 a11 a12 k, LeO (laws_sameTrie.f k a0 a1 a2 a3 a4 a5 a6 a7 a8 a9 a10 a11 a12) (laws_sameTrie.f (k + 1) a0 a1 a2 a3 a4 a5 a6 a7 a8 a9 a10 a11 a12) := by
 intro a0 a1 a2 a3 a4 a5 a6 a7 a8 a9 a10 a11 a12 k
 unfold laws_sameTrie.f
 repeat' first
   | (with_reducible exact impl_Hit.mono _ _ _)
   | (with_reducible exact LeO.refl _)
   | (with_reducible exact LeO.none _)
   | (with_reducible refine LeO.ite ?_ ?_)
   | (with_reducible refine LeO.bind ?_ (fun _ => ?_))
   | exact impl_Hit.mono _ _ _
   | exact LeO.none _
   | refine LeO.ite ?_ ?_
   | refine LeO.bind ?_ (fun _ => ?_)
set_option maxHeartbeats 8000000 in
set_option maxRecDepth 100000 in
theorem laws_sameTrie.calls (k : Nat) (a0_0 : Int) (a0_1 : Bool) (a0_2 : Int) (a0_3 : Bool) (A0_4 : Option Addr) (c0_4 : Nat) (l0_4 : List (S39)) (A0_5 : Option Addr) (c0_5 : Nat) (l0_5 : List (S39)) (a1_0 : Int) (a1_1 : Bool) (a1_2 : Int) (a1_3 : Bool) (A1_4 : Option Addr) (c1_4 : Nat) (l1_4 : List (S39)) (A1_5 : Option Addr) (c1_5 : Nat) (l1_5 : List (S39)) (a2 : Bool) (r : Bool) (w : World) (hr0_4 : Kd.C k39 w A0_4 l0_4.length l0_4) (hc0_4 : l0_4.length ≤ c0_4) (hr0_5 : Kd.C k39 w A0_5 l0_5.length l0_5) (hc0_5 : l0_5.length ≤ c0_5) (hr1_4 : Kd.C k39 w A1_4 l1_4.length l1_4) (hc1_4 : l1_4.length ≤ c1_4) (hr1_5 : Kd.C k39 w A1_5 l1_5.length l1_5) (hc1_5 : l1_5.length ≤ c1_5) (h : laws_sameTrie.f k a0_0 a0_1 a0_2 a0_3 l0_4 l0_5 a1_0 a1_1 a1_2 a1_3 l1_4 l1_5 a2 = some r) :
  Calls Try.prog 30 #[.agg #[.int .i64 a0_0, .bool a0_1, .int .i64 a0_2, .bool a0_3, .slice A0_4 l0_4.length c0_4, .slice A0_5 l0_5.length c0_5], .agg #[.int .i64 a1_0, .bool a1_1, .int .i64 a1_2, .bool a1_3, .slice A1_4 l1_4.length c1_4, .slice A1_5 l1_5.length c1_5], .bool a2] w fun e w' => e = .returned (.bool r) ∧ Below w.heap.size w w' := by
 have hu34 := Try.underlying34
 have hu31 := Try.underlying31
 have HR0_4 := Aside0.mk hr0_4
 have HC0_4 := Aside0.mk hc0_4
 clear hr0_4 hc0_4
 have HR0_5 := Aside0.mk hr0_5
 have HC0_5 := Aside0.mk hc0_5
 clear hr0_5 hc0_5
 have HR1_4 := Aside0.mk hr1_4
 have HC1_4 := Aside0.mk hc1_4
 clear hr1_4 hc1_4
 have HR1_5 := Aside0.mk hr1_5
 have HC1_5 := Aside0.mk hc1_5
 clear hr1_5 hc1_5
 have HB := Aside0.mk (Below.refl w.heap.size w)
 have H : (if a2 = true then ((laws_sameFound.f a0_2 a0_3 a1_2 a1_3).bind fun t136 => (if t136 = true then ((impl_Hit.f k l0_4 l1_4).bind fun t137 => (if t137 = true then ((impl_Hit.f k l0_5 l1_5).bind fun t138 => (some t138)) else (some false))) else (some false))) else ((laws_sameFound.f a0_0 a0_1 a1_0 a1_1).bind fun t139 => (if t139 = true then ((laws_sameFound.f a0_2 a0_3 a1_2 a1_3).bind fun t140 => (if t140 = true then ((impl_Hit.f k l0_4 l1_4).bind fun t141 => (if t141 = true then ((impl_Hit.f k l0_5 l1_5).bind fun t142 => (some t142)) else (some false))) else (some false))) else (some false)))) = some r := h
 clear h
 by_cases c4 : a2 = true
 ·subst c4
  have H1 : ((laws_sameFound.f a0_2 a0_3 a1_2 a1_3).bind fun t136 => (if t136 = true then ((impl_Hit.f k l0_4 l1_4).bind fun t137 => (if t137 = true then ((impl_Hit.f k l0_5 l1_5).bind fun t138 => (some t138)) else (some false))) else (some false))) = some r := by rw [if_pos rfl] at H; exact H
  clear H
  have H := H1
  clear H1
  replace H := Option.bind_eq_some_iff.mp H
  obtain ⟨t136, A50, H⟩ := H
  replace H : (if t136 = true then ((impl_Hit.f k l0_4 l1_4).bind fun t137 => (if t137 = true then ((impl_Hit.f k l0_5 l1_5).bind fun t138 => (some t138)) else (some false))) else (some false)) = some r := H
  have A5 := Aside0.mk A50
  clear A50
  by_cases c6 : t136 = true
  ·subst c6
   have H1 : ((impl_Hit.f k l0_4 l1_4).bind fun t137 => (if t137 = true then ((impl_Hit.f k l0_5 l1_5).bind fun t138 => (some t138)) else (some false))) = some r := by rw [if_pos rfl] at H; exact H
   clear H
   have H := H1
   clear H1
   replace H := Option.bind_eq_some_iff.mp H
   obtain ⟨t137, A70, H⟩ := H
   replace H : (if t137 = true then ((impl_Hit.f k l0_5 l1_5).bind fun t138 => (some t138)) else (some false)) = some r := H
   have A7 := Aside0.mk A70
   clear A70
   by_cases c8 : t137 = true
   ·subst c8
    have H1 : ((impl_Hit.f k l0_5 l1_5).bind fun t138 => (some t138)) = some r := by rw [if_pos rfl] at H; exact H
    clear H
    have H := H1
    clear H1
    replace H := Option.bind_eq_some_iff.mp H
    obtain ⟨t138, A90, H⟩ := H
    replace H : (some t138) = some r := H
    have A9 := Aside0.mk A90
    clear A90
    obtain rfl := Option.some.inj H
    go_enter Try.func30, Try.ntmps30
    go_wp2_with (first | ((with_reducible refine gate_dst (N := 3) rfl ?_); refine box_event ?hg (N := 3) ?hd (cs := #[.int .i64 a0_0, .bool a0_1, .int .i64 a0_2, .bool a0_3, .slice A0_4 l0_4.length c0_4, .slice A0_5 l0_5.length c0_5]) (t := 34) ?hr ?_; (case hd => rfl); (case hg => rfl); (case hr => first | (go_simp; done) | (go_simp; rfl)); intro gb134 hg w10 hbox hb; have n0_ := Aside0.mk (below_step (by repeat (first | (with_reducible first | exact HB.out | apply below_alloc | apply pw_below_drewN | apply below_drew1) | exact HB.out)) hb); have n1_ := Aside0.mk (hbox); have n2_ := Aside0.mk ((by rw [hg]; exact (below_size (by repeat (first | (with_reducible first | exact HB.out | apply below_alloc | apply pw_below_drewN | apply below_drew1) | exact HB.out))) : w.heap.size ≤ gb134)); have n3_ := Aside0.mk ((by rw [hg]; exact (below_size (by repeat (first | (with_reducible first | exact HB.out | apply below_alloc | apply pw_below_drewN | apply below_drew1) | exact HB.out))) : w.heap.size ≤ gb134)); clear HB; have HB := n0_; have BK134 := n1_; have GW134 := n2_; have GE134 := n3_; clear n0_ n1_ n2_ n3_; clear hb hbox hg) | ((with_reducible refine gate_dst (N := 4) rfl ?_); refine box_event ?hg (N := 4) ?hd (cs := #[.int .i64 a1_0, .bool a1_1, .int .i64 a1_2, .bool a1_3, .slice A1_4 l1_4.length c1_4, .slice A1_5 l1_5.length c1_5]) (t := 34) ?hr ?_; (case hd => rfl); (case hg => rfl); (case hr => first | (go_simp; done) | (go_simp; rfl)); intro gb135 hg w11 hbox hb; have n0_ := Aside0.mk (blk_below (g := gb134) (o := .cells #[.int .i64 a0_0, .bool a0_1, .int .i64 a0_2, .bool a0_3, .slice A0_4 l0_4.length c0_4, .slice A0_5 l0_5.length c0_5] 34 (0, 0)) (by (with_reducible repeat (first | refine blk_drewN ?_ _ | refine blk_drew ?_ | refine blk_alloc ?_ _)); exact BK134.out) hb); have n1_ := Aside0.mk (below_step (by repeat (first | (with_reducible first | exact HB.out | apply below_alloc | apply pw_below_drewN | apply below_drew1 | refine below_set ?_ GE134.out) | exact HB.out)) hb); have n2_ := Aside0.mk (hbox); have n3_ := Aside0.mk ((by rw [hg]; exact (below_size (by repeat (first | (with_reducible first | exact HB.out | apply below_alloc | apply pw_below_drewN | apply below_drew1 | refine below_set ?_ GE134.out) | exact HB.out))) : w.heap.size ≤ gb135)); have n4_ := Aside0.mk ((by rw [hg]; exact (below_size (by repeat (first | (with_reducible first | exact HB.out | apply below_alloc | apply pw_below_drewN | apply below_drew1 | refine below_set ?_ GE134.out) | exact HB.out))) : w.heap.size ≤ gb135)); have n5_ := Aside0.mk ((by rw [hg]; exact Nat.ne_of_lt (blk_lt (g := gb134) (o := .cells #[.int .i64 a0_0, .bool a0_1, .int .i64 a0_2, .bool a0_3, .slice A0_4 l0_4.length c0_4, .slice A0_5 l0_5.length c0_5] 34 (0, 0)) (by (with_reducible repeat (first | refine blk_drewN ?_ _ | refine blk_drew ?_ | refine blk_alloc ?_ _)); exact BK134.out)) : gb134 ≠ gb135)); have n6_ := Aside0.mk ((by rw [hg]; exact Nat.ne_of_gt (blk_lt (g := gb134) (o := .cells #[.int .i64 a0_0, .bool a0_1, .int .i64 a0_2, .bool a0_3, .slice A0_4 l0_4.length c0_4, .slice A0_5 l0_5.length c0_5] 34 (0, 0)) (by (with_reducible repeat (first | refine blk_drewN ?_ _ | refine blk_drew ?_ | refine blk_alloc ?_ _)); exact BK134.out)) : gb135 ≠ gb134)); clear BK134; clear HB; have BK134 := n0_; have HB := n1_; have BK135 := n2_; have GW135 := n3_; have GE135 := n4_; have NB134_135 := n5_; have NB135_134 := n6_; clear n0_ n1_ n2_ n3_ n4_ n5_ n6_; clear hb hbox hg; have hnb12 := NB134_135.out; have hnc12 := NB135_134.out; have hcz13_0 : w11.cell? ⟨gb134, 0, none⟩ = some (.int .i64 a0_0) := (blk_cell BK134.out 0).trans rfl; have hcz13_1 : w11.cell? ⟨gb134, 1, none⟩ = some (.bool a0_1) := (blk_cell BK134.out 1).trans rfl; have hcz13_2 : w11.cell? ⟨gb134, 2, none⟩ = some (.int .i64 a0_2) := (blk_cell BK134.out 2).trans rfl; have hcz13_3 : w11.cell? ⟨gb134, 3, none⟩ = some (.bool a0_3) := (blk_cell BK134.out 3).trans rfl; have hcz13_4 : w11.cell? ⟨gb134, 4, none⟩ = some (.slice A0_4 l0_4.length c0_4) := (blk_cell BK134.out 4).trans rfl; have hcz13_5 : w11.cell? ⟨gb134, 5, none⟩ = some (.slice A0_5 l0_5.length c0_5) := (blk_cell BK134.out 5).trans rfl; have hfz13_0 := blk_frozen BK134.out 0; have hfz13_1 := blk_frozen BK134.out 1; have hfz13_2 := blk_frozen BK134.out 2; have hfz13_3 := blk_frozen BK134.out 3; have hfz13_4 := blk_frozen BK134.out 4; have hfz13_5 := blk_frozen BK134.out 5; have hcz14_0 : w11.cell? ⟨gb135, 0, none⟩ = some (.int .i64 a1_0) := (blk_cell BK135.out 0).trans rfl; have hcz14_1 : w11.cell? ⟨gb135, 1, none⟩ = some (.bool a1_1) := (blk_cell BK135.out 1).trans rfl; have hcz14_2 : w11.cell? ⟨gb135, 2, none⟩ = some (.int .i64 a1_2) := (blk_cell BK135.out 2).trans rfl; have hcz14_3 : w11.cell? ⟨gb135, 3, none⟩ = some (.bool a1_3) := (blk_cell BK135.out 3).trans rfl; have hcz14_4 : w11.cell? ⟨gb135, 4, none⟩ = some (.slice A1_4 l1_4.length c1_4) := (blk_cell BK135.out 4).trans rfl; have hcz14_5 : w11.cell? ⟨gb135, 5, none⟩ = some (.slice A1_5 l1_5.length c1_5) := (blk_cell BK135.out 5).trans rfl; have hfz14_0 := blk_frozen BK135.out 0; have hfz14_1 := blk_frozen BK135.out 1; have hfz14_2 := blk_frozen BK135.out 2; have hfz14_3 := blk_frozen BK135.out 3; have hfz14_4 := blk_frozen BK135.out 4; have hfz14_5 := blk_frozen BK135.out 5) | (go_at_call 50; (with_reducible refine (laws_sameFound.calls a0_2 a0_3 a1_2 a1_3 true _ A5.out).mono ?_); rintro e w15 ⟨rfl, hb⟩; have n0_ := Aside0.mk (blk_below (g := gb134) (o := .cells #[.int .i64 a0_0, .bool a0_1, .int .i64 a0_2, .bool a0_3, .slice A0_4 l0_4.length c0_4, .slice A0_5 l0_5.length c0_5] 34 (0, 0)) (by (with_reducible repeat (first | refine blk_drewN ?_ _ | refine blk_drew ?_ | refine blk_alloc ?_ _)); exact BK134.out) hb); have n1_ := Aside0.mk (blk_below (g := gb135) (o := .cells #[.int .i64 a1_0, .bool a1_1, .int .i64 a1_2, .bool a1_3, .slice A1_4 l1_4.length c1_4, .slice A1_5 l1_5.length c1_5] 34 (0, 0)) (by (with_reducible repeat (first | refine blk_drewN ?_ _ | refine blk_drew ?_ | refine blk_alloc ?_ _)); exact BK135.out) hb); have n2_ := Aside0.mk (below_step (by repeat (first | (with_reducible first | exact HB.out | apply below_alloc | apply pw_below_drewN | apply below_drew1 | refine below_set ?_ GE134.out | refine below_set ?_ GE135.out) | exact HB.out)) hb); clear BK134; clear BK135; clear HB; have BK134 := n0_; have BK135 := n1_; have HB := n2_; clear n0_ n1_ n2_; (try clear hb); (try clear hb2); (try clear hk); (try clear hi); have hcz16_0 : w15.cell? ⟨gb134, 0, none⟩ = some (.int .i64 a0_0) := (blk_cell BK134.out 0).trans rfl; have hcz16_1 : w15.cell? ⟨gb134, 1, none⟩ = some (.bool a0_1) := (blk_cell BK134.out 1).trans rfl; have hcz16_2 : w15.cell? ⟨gb134, 2, none⟩ = some (.int .i64 a0_2) := (blk_cell BK134.out 2).trans rfl; have hcz16_3 : w15.cell? ⟨gb134, 3, none⟩ = some (.bool a0_3) := (blk_cell BK134.out 3).trans rfl; have hcz16_4 : w15.cell? ⟨gb134, 4, none⟩ = some (.slice A0_4 l0_4.length c0_4) := (blk_cell BK134.out 4).trans rfl; have hcz16_5 : w15.cell? ⟨gb134, 5, none⟩ = some (.slice A0_5 l0_5.length c0_5) := (blk_cell BK134.out 5).trans rfl; have hfz16_0 := blk_frozen BK134.out 0; have hfz16_1 := blk_frozen BK134.out 1; have hfz16_2 := blk_frozen BK134.out 2; have hfz16_3 := blk_frozen BK134.out 3; have hfz16_4 := blk_frozen BK134.out 4; have hfz16_5 := blk_frozen BK134.out 5; have hcz17_0 : w15.cell? ⟨gb135, 0, none⟩ = some (.int .i64 a1_0) := (blk_cell BK135.out 0).trans rfl; have hcz17_1 : w15.cell? ⟨gb135, 1, none⟩ = some (.bool a1_1) := (blk_cell BK135.out 1).trans rfl; have hcz17_2 : w15.cell? ⟨gb135, 2, none⟩ = some (.int .i64 a1_2) := (blk_cell BK135.out 2).trans rfl; have hcz17_3 : w15.cell? ⟨gb135, 3, none⟩ = some (.bool a1_3) := (blk_cell BK135.out 3).trans rfl; have hcz17_4 : w15.cell? ⟨gb135, 4, none⟩ = some (.slice A1_4 l1_4.length c1_4) := (blk_cell BK135.out 4).trans rfl; have hcz17_5 : w15.cell? ⟨gb135, 5, none⟩ = some (.slice A1_5 l1_5.length c1_5) := (blk_cell BK135.out 5).trans rfl; have hfz17_0 := blk_frozen BK135.out 0; have hfz17_1 := blk_frozen BK135.out 1; have hfz17_2 := blk_frozen BK135.out 2; have hfz17_3 := blk_frozen BK135.out 3; have hfz17_4 := blk_frozen BK135.out 4; have hfz17_5 := blk_frozen BK135.out 5) | (go_at_call 16; (with_reducible refine (impl_Hit.calls k _ _ l0_4 _ _ l1_4 true _ ?side1 ?side2 ?side3 ?side4 A7.out).mono ?_); (case side1 => repeat (first | exact (Kd.C_below HR0_4.out HB.out) | (with_reducible refine Kd.C_alloc ?_ _) | (with_reducible refine Kd.C_drewN ?_ _) | (with_reducible refine Kd.C_drew ?_))); (case side2 => exact HC0_4.out); (case side3 => repeat (first | exact (Kd.C_below HR1_4.out HB.out) | (with_reducible refine Kd.C_alloc ?_ _) | (with_reducible refine Kd.C_drewN ?_ _) | (with_reducible refine Kd.C_drew ?_))); (case side4 => exact HC1_4.out); rintro e w' ⟨rfl, ⟨nd, rfl⟩⟩) | (go_at_call 16; (with_reducible refine (impl_Hit.calls k _ _ l0_5 _ _ l1_5 t138 _ ?side1 ?side2 ?side3 ?side4 A9.out).mono ?_); (case side1 => repeat (first | exact (Kd.C_below HR0_5.out (by repeat (first | (with_reducible first | exact HB.out | apply below_alloc | apply pw_below_drewN | apply below_drew1 | refine below_set ?_ GE134.out | refine below_set ?_ GE135.out) | exact HB.out))) | (with_reducible refine Kd.C_alloc ?_ _) | (with_reducible refine Kd.C_drewN ?_ _) | (with_reducible refine Kd.C_drew ?_))); (case side2 => exact HC0_5.out); (case side3 => repeat (first | exact (Kd.C_below HR1_5.out (by repeat (first | (with_reducible first | exact HB.out | apply below_alloc | apply pw_below_drewN | apply below_drew1 | refine below_set ?_ GE134.out | refine below_set ?_ GE135.out) | exact HB.out))) | (with_reducible refine Kd.C_alloc ?_ _) | (with_reducible refine Kd.C_drewN ?_ _) | (with_reducible refine Kd.C_drew ?_))); (case side4 => exact HC1_5.out); rintro e w' ⟨rfl, ⟨nd, rfl⟩⟩))
    go_ret
    exact ⟨by first | rfl | (simp [errW_none, errW_some] <;> rfl) | (simp [*, errW_none, errW_some] <;> rfl), by repeat (first | (with_reducible first | exact HB.out | apply below_alloc | apply pw_below_drewN | apply below_drew1 | refine below_set ?_ GE134.out | refine below_set ?_ GE135.out) | exact HB.out)⟩
   ·replace c8 := Bool.eq_false_iff.mpr c8
    subst c8
    have H1 : (some false) = some r := by rw [if_neg (show ¬ (false = true) by decide)] at H; exact H
    clear H
    have H := H1
    clear H1
    obtain rfl := Option.some.inj H
    go_enter Try.func30, Try.ntmps30
    go_wp2_with (first | ((with_reducible refine gate_dst (N := 3) rfl ?_); refine box_event ?hg (N := 3) ?hd (cs := #[.int .i64 a0_0, .bool a0_1, .int .i64 a0_2, .bool a0_3, .slice A0_4 l0_4.length c0_4, .slice A0_5 l0_5.length c0_5]) (t := 34) ?hr ?_; (case hd => rfl); (case hg => rfl); (case hr => first | (go_simp; done) | (go_simp; rfl)); intro gb134 hg w18 hbox hb; have n0_ := Aside0.mk (below_step (by repeat (first | (with_reducible first | exact HB.out | apply below_alloc | apply pw_below_drewN | apply below_drew1) | exact HB.out)) hb); have n1_ := Aside0.mk (hbox); have n2_ := Aside0.mk ((by rw [hg]; exact (below_size (by repeat (first | (with_reducible first | exact HB.out | apply below_alloc | apply pw_below_drewN | apply below_drew1) | exact HB.out))) : w.heap.size ≤ gb134)); have n3_ := Aside0.mk ((by rw [hg]; exact (below_size (by repeat (first | (with_reducible first | exact HB.out | apply below_alloc | apply pw_below_drewN | apply below_drew1) | exact HB.out))) : w.heap.size ≤ gb134)); clear HB; have HB := n0_; have BK134 := n1_; have GW134 := n2_; have GE134 := n3_; clear n0_ n1_ n2_ n3_; clear hb hbox hg) | ((with_reducible refine gate_dst (N := 4) rfl ?_); refine box_event ?hg (N := 4) ?hd (cs := #[.int .i64 a1_0, .bool a1_1, .int .i64 a1_2, .bool a1_3, .slice A1_4 l1_4.length c1_4, .slice A1_5 l1_5.length c1_5]) (t := 34) ?hr ?_; (case hd => rfl); (case hg => rfl); (case hr => first | (go_simp; done) | (go_simp; rfl)); intro gb135 hg w19 hbox hb; have n0_ := Aside0.mk (blk_below (g := gb134) (o := .cells #[.int .i64 a0_0, .bool a0_1, .int .i64 a0_2, .bool a0_3, .slice A0_4 l0_4.length c0_4, .slice A0_5 l0_5.length c0_5] 34 (0, 0)) (by (with_reducible repeat (first | refine blk_drewN ?_ _ | refine blk_drew ?_ | refine blk_alloc ?_ _)); exact BK134.out) hb); have n1_ := Aside0.mk (below_step (by repeat (first | (with_reducible first | exact HB.out | apply below_alloc | apply pw_below_drewN | apply below_drew1 | refine below_set ?_ GE134.out) | exact HB.out)) hb); have n2_ := Aside0.mk (hbox); have n3_ := Aside0.mk ((by rw [hg]; exact (below_size (by repeat (first | (with_reducible first | exact HB.out | apply below_alloc | apply pw_below_drewN | apply below_drew1 | refine below_set ?_ GE134.out) | exact HB.out))) : w.heap.size ≤ gb135)); have n4_ := Aside0.mk ((by rw [hg]; exact (below_size (by repeat (first | (with_reducible first | exact HB.out | apply below_alloc | apply pw_below_drewN | apply below_drew1 | refine below_set ?_ GE134.out) | exact HB.out))) : w.heap.size ≤ gb135)); have n5_ := Aside0.mk ((by rw [hg]; exact Nat.ne_of_lt (blk_lt (g := gb134) (o := .cells #[.int .i64 a0_0, .bool a0_1, .int .i64 a0_2, .bool a0_3, .slice A0_4 l0_4.length c0_4, .slice A0_5 l0_5.length c0_5] 34 (0, 0)) (by (with_reducible repeat (first | refine blk_drewN ?_ _ | refine blk_drew ?_ | refine blk_alloc ?_ _)); exact BK134.out)) : gb134 ≠ gb135)); have n6_ := Aside0.mk ((by rw [hg]; exact Nat.ne_of_gt (blk_lt (g := gb134) (o := .cells #[.int .i64 a0_0, .bool a0_1, .int .i64 a0_2, .bool a0_3, .slice A0_4 l0_4.length c0_4, .slice A0_5 l0_5.length c0_5] 34 (0, 0)) (by (with_reducible repeat (first | refine blk_drewN ?_ _ | refine blk_drew ?_ | refine blk_alloc ?_ _)); exact BK134.out)) : gb135 ≠ gb134)); clear BK134; clear HB; have BK134 := n0_; have HB := n1_; have BK135 := n2_; have GW135 := n3_; have GE135 := n4_; have NB134_135 := n5_; have NB135_134 := n6_; clear n0_ n1_ n2_ n3_ n4_ n5_ n6_; clear hb hbox hg; have hnb20 := NB134_135.out; have hnc20 := NB135_134.out; have hcz21_0 : w19.cell? ⟨gb134, 0, none⟩ = some (.int .i64 a0_0) := (blk_cell BK134.out 0).trans rfl; have hcz21_1 : w19.cell? ⟨gb134, 1, none⟩ = some (.bool a0_1) := (blk_cell BK134.out 1).trans rfl; have hcz21_2 : w19.cell? ⟨gb134, 2, none⟩ = some (.int .i64 a0_2) := (blk_cell BK134.out 2).trans rfl; have hcz21_3 : w19.cell? ⟨gb134, 3, none⟩ = some (.bool a0_3) := (blk_cell BK134.out 3).trans rfl; have hcz21_4 : w19.cell? ⟨gb134, 4, none⟩ = some (.slice A0_4 l0_4.length c0_4) := (blk_cell BK134.out 4).trans rfl; have hcz21_5 : w19.cell? ⟨gb134, 5, none⟩ = some (.slice A0_5 l0_5.length c0_5) := (blk_cell BK134.out 5).trans rfl; have hfz21_0 := blk_frozen BK134.out 0; have hfz21_1 := blk_frozen BK134.out 1; have hfz21_2 := blk_frozen BK134.out 2; have hfz21_3 := blk_frozen BK134.out 3; have hfz21_4 := blk_frozen BK134.out 4; have hfz21_5 := blk_frozen BK134.out 5; have hcz22_0 : w19.cell? ⟨gb135, 0, none⟩ = some (.int .i64 a1_0) := (blk_cell BK135.out 0).trans rfl; have hcz22_1 : w19.cell? ⟨gb135, 1, none⟩ = some (.bool a1_1) := (blk_cell BK135.out 1).trans rfl; have hcz22_2 : w19.cell? ⟨gb135, 2, none⟩ = some (.int .i64 a1_2) := (blk_cell BK135.out 2).trans rfl; have hcz22_3 : w19.cell? ⟨gb135, 3, none⟩ = some (.bool a1_3) := (blk_cell BK135.out 3).trans rfl; have hcz22_4 : w19.cell? ⟨gb135, 4, none⟩ = some (.slice A1_4 l1_4.length c1_4) := (blk_cell BK135.out 4).trans rfl; have hcz22_5 : w19.cell? ⟨gb135, 5, none⟩ = some (.slice A1_5 l1_5.length c1_5) := (blk_cell BK135.out 5).trans rfl; have hfz22_0 := blk_frozen BK135.out 0; have hfz22_1 := blk_frozen BK135.out 1; have hfz22_2 := blk_frozen BK135.out 2; have hfz22_3 := blk_frozen BK135.out 3; have hfz22_4 := blk_frozen BK135.out 4; have hfz22_5 := blk_frozen BK135.out 5) | (go_at_call 50; (with_reducible refine (laws_sameFound.calls a0_2 a0_3 a1_2 a1_3 true _ A5.out).mono ?_); rintro e w23 ⟨rfl, hb⟩; have n0_ := Aside0.mk (blk_below (g := gb134) (o := .cells #[.int .i64 a0_0, .bool a0_1, .int .i64 a0_2, .bool a0_3, .slice A0_4 l0_4.length c0_4, .slice A0_5 l0_5.length c0_5] 34 (0, 0)) (by (with_reducible repeat (first | refine blk_drewN ?_ _ | refine blk_drew ?_ | refine blk_alloc ?_ _)); exact BK134.out) hb); have n1_ := Aside0.mk (blk_below (g := gb135) (o := .cells #[.int .i64 a1_0, .bool a1_1, .int .i64 a1_2, .bool a1_3, .slice A1_4 l1_4.length c1_4, .slice A1_5 l1_5.length c1_5] 34 (0, 0)) (by (with_reducible repeat (first | refine blk_drewN ?_ _ | refine blk_drew ?_ | refine blk_alloc ?_ _)); exact BK135.out) hb); have n2_ := Aside0.mk (below_step (by repeat (first | (with_reducible first | exact HB.out | apply below_alloc | apply pw_below_drewN | apply below_drew1 | refine below_set ?_ GE134.out | refine below_set ?_ GE135.out) | exact HB.out)) hb); clear BK134; clear BK135; clear HB; have BK134 := n0_; have BK135 := n1_; have HB := n2_; clear n0_ n1_ n2_; (try clear hb); (try clear hb2); (try clear hk); (try clear hi); have hcz24_0 : w23.cell? ⟨gb134, 0, none⟩ = some (.int .i64 a0_0) := (blk_cell BK134.out 0).trans rfl; have hcz24_1 : w23.cell? ⟨gb134, 1, none⟩ = some (.bool a0_1) := (blk_cell BK134.out 1).trans rfl; have hcz24_2 : w23.cell? ⟨gb134, 2, none⟩ = some (.int .i64 a0_2) := (blk_cell BK134.out 2).trans rfl; have hcz24_3 : w23.cell? ⟨gb134, 3, none⟩ = some (.bool a0_3) := (blk_cell BK134.out 3).trans rfl; have hcz24_4 : w23.cell? ⟨gb134, 4, none⟩ = some (.slice A0_4 l0_4.length c0_4) := (blk_cell BK134.out 4).trans rfl; have hcz24_5 : w23.cell? ⟨gb134, 5, none⟩ = some (.slice A0_5 l0_5.length c0_5) := (blk_cell BK134.out 5).trans rfl; have hfz24_0 := blk_frozen BK134.out 0; have hfz24_1 := blk_frozen BK134.out 1; have hfz24_2 := blk_frozen BK134.out 2; have hfz24_3 := blk_frozen BK134.out 3; have hfz24_4 := blk_frozen BK134.out 4; have hfz24_5 := blk_frozen BK134.out 5; have hcz25_0 : w23.cell? ⟨gb135, 0, none⟩ = some (.int .i64 a1_0) := (blk_cell BK135.out 0).trans rfl; have hcz25_1 : w23.cell? ⟨gb135, 1, none⟩ = some (.bool a1_1) := (blk_cell BK135.out 1).trans rfl; have hcz25_2 : w23.cell? ⟨gb135, 2, none⟩ = some (.int .i64 a1_2) := (blk_cell BK135.out 2).trans rfl; have hcz25_3 : w23.cell? ⟨gb135, 3, none⟩ = some (.bool a1_3) := (blk_cell BK135.out 3).trans rfl; have hcz25_4 : w23.cell? ⟨gb135, 4, none⟩ = some (.slice A1_4 l1_4.length c1_4) := (blk_cell BK135.out 4).trans rfl; have hcz25_5 : w23.cell? ⟨gb135, 5, none⟩ = some (.slice A1_5 l1_5.length c1_5) := (blk_cell BK135.out 5).trans rfl; have hfz25_0 := blk_frozen BK135.out 0; have hfz25_1 := blk_frozen BK135.out 1; have hfz25_2 := blk_frozen BK135.out 2; have hfz25_3 := blk_frozen BK135.out 3; have hfz25_4 := blk_frozen BK135.out 4; have hfz25_5 := blk_frozen BK135.out 5) | (go_at_call 16; (with_reducible refine (impl_Hit.calls k _ _ l0_4 _ _ l1_4 false _ ?side1 ?side2 ?side3 ?side4 A7.out).mono ?_); (case side1 => repeat (first | exact (Kd.C_below HR0_4.out HB.out) | (with_reducible refine Kd.C_alloc ?_ _) | (with_reducible refine Kd.C_drewN ?_ _) | (with_reducible refine Kd.C_drew ?_))); (case side2 => exact HC0_4.out); (case side3 => repeat (first | exact (Kd.C_below HR1_4.out HB.out) | (with_reducible refine Kd.C_alloc ?_ _) | (with_reducible refine Kd.C_drewN ?_ _) | (with_reducible refine Kd.C_drew ?_))); (case side4 => exact HC1_4.out); rintro e w' ⟨rfl, ⟨nd, rfl⟩⟩))
    go_ret
    exact ⟨by first | rfl | (simp [errW_none, errW_some] <;> rfl) | (simp [*, errW_none, errW_some] <;> rfl), by repeat (first | (with_reducible first | exact HB.out | apply below_alloc | apply pw_below_drewN | apply below_drew1 | refine below_set ?_ GE134.out | refine below_set ?_ GE135.out) | exact HB.out)⟩
  ·replace c6 := Bool.eq_false_iff.mpr c6
   subst c6
   have H1 : (some false) = some r := by rw [if_neg (show ¬ (false = true) by decide)] at H; exact H
   clear H
   have H := H1
   clear H1
   obtain rfl := Option.some.inj H
   go_enter Try.func30, Try.ntmps30
   go_wp2_with (first | ((with_reducible refine gate_dst (N := 3) rfl ?_); refine box_event ?hg (N := 3) ?hd (cs := #[.int .i64 a0_0, .bool a0_1, .int .i64 a0_2, .bool a0_3, .slice A0_4 l0_4.length c0_4, .slice A0_5 l0_5.length c0_5]) (t := 34) ?hr ?_; (case hd => rfl); (case hg => rfl); (case hr => first | (go_simp; done) | (go_simp; rfl)); intro gb134 hg w26 hbox hb; have n0_ := Aside0.mk (below_step (by repeat (first | (with_reducible first | exact HB.out | apply below_alloc | apply pw_below_drewN | apply below_drew1) | exact HB.out)) hb); have n1_ := Aside0.mk (hbox); have n2_ := Aside0.mk ((by rw [hg]; exact (below_size (by repeat (first | (with_reducible first | exact HB.out | apply below_alloc | apply pw_below_drewN | apply below_drew1) | exact HB.out))) : w.heap.size ≤ gb134)); have n3_ := Aside0.mk ((by rw [hg]; exact (below_size (by repeat (first | (with_reducible first | exact HB.out | apply below_alloc | apply pw_below_drewN | apply below_drew1) | exact HB.out))) : w.heap.size ≤ gb134)); clear HB; have HB := n0_; have BK134 := n1_; have GW134 := n2_; have GE134 := n3_; clear n0_ n1_ n2_ n3_; clear hb hbox hg) | ((with_reducible refine gate_dst (N := 4) rfl ?_); refine box_event ?hg (N := 4) ?hd (cs := #[.int .i64 a1_0, .bool a1_1, .int .i64 a1_2, .bool a1_3, .slice A1_4 l1_4.length c1_4, .slice A1_5 l1_5.length c1_5]) (t := 34) ?hr ?_; (case hd => rfl); (case hg => rfl); (case hr => first | (go_simp; done) | (go_simp; rfl)); intro gb135 hg w27 hbox hb; have n0_ := Aside0.mk (blk_below (g := gb134) (o := .cells #[.int .i64 a0_0, .bool a0_1, .int .i64 a0_2, .bool a0_3, .slice A0_4 l0_4.length c0_4, .slice A0_5 l0_5.length c0_5] 34 (0, 0)) (by (with_reducible repeat (first | refine blk_drewN ?_ _ | refine blk_drew ?_ | refine blk_alloc ?_ _)); exact BK134.out) hb); have n1_ := Aside0.mk (below_step (by repeat (first | (with_reducible first | exact HB.out | apply below_alloc | apply pw_below_drewN | apply below_drew1 | refine below_set ?_ GE134.out) | exact HB.out)) hb); have n2_ := Aside0.mk (hbox); have n3_ := Aside0.mk ((by rw [hg]; exact (below_size (by repeat (first | (with_reducible first | exact HB.out | apply below_alloc | apply pw_below_drewN | apply below_drew1 | refine below_set ?_ GE134.out) | exact HB.out))) : w.heap.size ≤ gb135)); have n4_ := Aside0.mk ((by rw [hg]; exact (below_size (by repeat (first | (with_reducible first | exact HB.out | apply below_alloc | apply pw_below_drewN | apply below_drew1 | refine below_set ?_ GE134.out) | exact HB.out))) : w.heap.size ≤ gb135)); have n5_ := Aside0.mk ((by rw [hg]; exact Nat.ne_of_lt (blk_lt (g := gb134) (o := .cells #[.int .i64 a0_0, .bool a0_1, .int .i64 a0_2, .bool a0_3, .slice A0_4 l0_4.length c0_4, .slice A0_5 l0_5.length c0_5] 34 (0, 0)) (by (with_reducible repeat (first | refine blk_drewN ?_ _ | refine blk_drew ?_ | refine blk_alloc ?_ _)); exact BK134.out)) : gb134 ≠ gb135)); have n6_ := Aside0.mk ((by rw [hg]; exact Nat.ne_of_gt (blk_lt (g := gb134) (o := .cells #[.int .i64 a0_0, .bool a0_1, .int .i64 a0_2, .bool a0_3, .slice A0_4 l0_4.length c0_4, .slice A0_5 l0_5.length c0_5] 34 (0, 0)) (by (with_reducible repeat (first | refine blk_drewN ?_ _ | refine blk_drew ?_ | refine blk_alloc ?_ _)); exact BK134.out)) : gb135 ≠ gb134)); clear BK134; clear HB; have BK134 := n0_; have HB := n1_; have BK135 := n2_; have GW135 := n3_; have GE135 := n4_; have NB134_135 := n5_; have NB135_134 := n6_; clear n0_ n1_ n2_ n3_ n4_ n5_ n6_; clear hb hbox hg; have hnb28 := NB134_135.out; have hnc28 := NB135_134.out; have hcz29_0 : w27.cell? ⟨gb134, 0, none⟩ = some (.int .i64 a0_0) := (blk_cell BK134.out 0).trans rfl; have hcz29_1 : w27.cell? ⟨gb134, 1, none⟩ = some (.bool a0_1) := (blk_cell BK134.out 1).trans rfl; have hcz29_2 : w27.cell? ⟨gb134, 2, none⟩ = some (.int .i64 a0_2) := (blk_cell BK134.out 2).trans rfl; have hcz29_3 : w27.cell? ⟨gb134, 3, none⟩ = some (.bool a0_3) := (blk_cell BK134.out 3).trans rfl; have hcz29_4 : w27.cell? ⟨gb134, 4, none⟩ = some (.slice A0_4 l0_4.length c0_4) := (blk_cell BK134.out 4).trans rfl; have hcz29_5 : w27.cell? ⟨gb134, 5, none⟩ = some (.slice A0_5 l0_5.length c0_5) := (blk_cell BK134.out 5).trans rfl; have hfz29_0 := blk_frozen BK134.out 0; have hfz29_1 := blk_frozen BK134.out 1; have hfz29_2 := blk_frozen BK134.out 2; have hfz29_3 := blk_frozen BK134.out 3; have hfz29_4 := blk_frozen BK134.out 4; have hfz29_5 := blk_frozen BK134.out 5; have hcz30_0 : w27.cell? ⟨gb135, 0, none⟩ = some (.int .i64 a1_0) := (blk_cell BK135.out 0).trans rfl; have hcz30_1 : w27.cell? ⟨gb135, 1, none⟩ = some (.bool a1_1) := (blk_cell BK135.out 1).trans rfl; have hcz30_2 : w27.cell? ⟨gb135, 2, none⟩ = some (.int .i64 a1_2) := (blk_cell BK135.out 2).trans rfl; have hcz30_3 : w27.cell? ⟨gb135, 3, none⟩ = some (.bool a1_3) := (blk_cell BK135.out 3).trans rfl; have hcz30_4 : w27.cell? ⟨gb135, 4, none⟩ = some (.slice A1_4 l1_4.length c1_4) := (blk_cell BK135.out 4).trans rfl; have hcz30_5 : w27.cell? ⟨gb135, 5, none⟩ = some (.slice A1_5 l1_5.length c1_5) := (blk_cell BK135.out 5).trans rfl; have hfz30_0 := blk_frozen BK135.out 0; have hfz30_1 := blk_frozen BK135.out 1; have hfz30_2 := blk_frozen BK135.out 2; have hfz30_3 := blk_frozen BK135.out 3; have hfz30_4 := blk_frozen BK135.out 4; have hfz30_5 := blk_frozen BK135.out 5) | (go_at_call 50; (with_reducible refine (laws_sameFound.calls a0_2 a0_3 a1_2 a1_3 false _ A5.out).mono ?_); rintro e w31 ⟨rfl, hb⟩; have n0_ := Aside0.mk (blk_below (g := gb134) (o := .cells #[.int .i64 a0_0, .bool a0_1, .int .i64 a0_2, .bool a0_3, .slice A0_4 l0_4.length c0_4, .slice A0_5 l0_5.length c0_5] 34 (0, 0)) (by (with_reducible repeat (first | refine blk_drewN ?_ _ | refine blk_drew ?_ | refine blk_alloc ?_ _)); exact BK134.out) hb); have n1_ := Aside0.mk (blk_below (g := gb135) (o := .cells #[.int .i64 a1_0, .bool a1_1, .int .i64 a1_2, .bool a1_3, .slice A1_4 l1_4.length c1_4, .slice A1_5 l1_5.length c1_5] 34 (0, 0)) (by (with_reducible repeat (first | refine blk_drewN ?_ _ | refine blk_drew ?_ | refine blk_alloc ?_ _)); exact BK135.out) hb); have n2_ := Aside0.mk (below_step (by repeat (first | (with_reducible first | exact HB.out | apply below_alloc | apply pw_below_drewN | apply below_drew1 | refine below_set ?_ GE134.out | refine below_set ?_ GE135.out) | exact HB.out)) hb); clear BK134; clear BK135; clear HB; have BK134 := n0_; have BK135 := n1_; have HB := n2_; clear n0_ n1_ n2_; (try clear hb); (try clear hb2); (try clear hk); (try clear hi)))
   go_ret
   exact ⟨by first | rfl | (simp [errW_none, errW_some] <;> rfl) | (simp [*, errW_none, errW_some] <;> rfl), by repeat (first | (with_reducible first | exact HB.out | apply below_alloc | apply pw_below_drewN | apply below_drew1 | refine below_set ?_ GE134.out | refine below_set ?_ GE135.out) | exact HB.out)⟩
 ·replace c4 := Bool.eq_false_iff.mpr c4
  subst c4
  have H1 : ((laws_sameFound.f a0_0 a0_1 a1_0 a1_1).bind fun t139 => (if t139 = true then ((laws_sameFound.f a0_2 a0_3 a1_2 a1_3).bind fun t140 => (if t140 = true then ((impl_Hit.f k l0_4 l1_4).bind fun t141 => (if t141 = true then ((impl_Hit.f k l0_5 l1_5).bind fun t142 => (some t142)) else (some false))) else (some false))) else (some false))) = some r := by rw [if_neg (show ¬ (false = true) by decide)] at H; exact H
  clear H
  have H := H1
  clear H1
  replace H := Option.bind_eq_some_iff.mp H
  obtain ⟨t139, A320, H⟩ := H
  replace H : (if t139 = true then ((laws_sameFound.f a0_2 a0_3 a1_2 a1_3).bind fun t140 => (if t140 = true then ((impl_Hit.f k l0_4 l1_4).bind fun t141 => (if t141 = true then ((impl_Hit.f k l0_5 l1_5).bind fun t142 => (some t142)) else (some false))) else (some false))) else (some false)) = some r := H
  have A32 := Aside0.mk A320
  clear A320
  by_cases c33 : t139 = true
  ·subst c33
   have H1 : ((laws_sameFound.f a0_2 a0_3 a1_2 a1_3).bind fun t140 => (if t140 = true then ((impl_Hit.f k l0_4 l1_4).bind fun t141 => (if t141 = true then ((impl_Hit.f k l0_5 l1_5).bind fun t142 => (some t142)) else (some false))) else (some false))) = some r := by rw [if_pos rfl] at H; exact H
   clear H
   have H := H1
   clear H1
   replace H := Option.bind_eq_some_iff.mp H
   obtain ⟨t140, A340, H⟩ := H
   replace H : (if t140 = true then ((impl_Hit.f k l0_4 l1_4).bind fun t141 => (if t141 = true then ((impl_Hit.f k l0_5 l1_5).bind fun t142 => (some t142)) else (some false))) else (some false)) = some r := H
   have A34 := Aside0.mk A340
   clear A340
   by_cases c35 : t140 = true
   ·subst c35
    have H1 : ((impl_Hit.f k l0_4 l1_4).bind fun t141 => (if t141 = true then ((impl_Hit.f k l0_5 l1_5).bind fun t142 => (some t142)) else (some false))) = some r := by rw [if_pos rfl] at H; exact H
    clear H
    have H := H1
    clear H1
    replace H := Option.bind_eq_some_iff.mp H
    obtain ⟨t141, A360, H⟩ := H
    replace H : (if t141 = true then ((impl_Hit.f k l0_5 l1_5).bind fun t142 => (some t142)) else (some false)) = some r := H
    have A36 := Aside0.mk A360
    clear A360
    by_cases c37 : t141 = true
    ·subst c37
     have H1 : ((impl_Hit.f k l0_5 l1_5).bind fun t142 => (some t142)) = some r := by rw [if_pos rfl] at H; exact H
     clear H
     have H := H1
     clear H1
     replace H := Option.bind_eq_some_iff.mp H
     obtain ⟨t142, A380, H⟩ := H
     replace H : (some t142) = some r := H
     have A38 := Aside0.mk A380
     clear A380
     obtain rfl := Option.some.inj H
     go_enter Try.func30, Try.ntmps30
     go_wp2_with (first | ((with_reducible refine gate_dst (N := 3) rfl ?_); refine box_event ?hg (N := 3) ?hd (cs := #[.int .i64 a0_0, .bool a0_1, .int .i64 a0_2, .bool a0_3, .slice A0_4 l0_4.length c0_4, .slice A0_5 l0_5.length c0_5]) (t := 34) ?hr ?_; (case hd => rfl); (case hg => rfl); (case hr => first | (go_simp; done) | (go_simp; rfl)); intro gb134 hg w39 hbox hb; have n0_ := Aside0.mk (below_step (by repeat (first | (with_reducible first | exact HB.out | apply below_alloc | apply pw_below_drewN | apply below_drew1) | exact HB.out)) hb); have n1_ := Aside0.mk (hbox); have n2_ := Aside0.mk ((by rw [hg]; exact (below_size (by repeat (first | (with_reducible first | exact HB.out | apply below_alloc | apply pw_below_drewN | apply below_drew1) | exact HB.out))) : w.heap.size ≤ gb134)); have n3_ := Aside0.mk ((by rw [hg]; exact (below_size (by repeat (first | (with_reducible first | exact HB.out | apply below_alloc | apply pw_below_drewN | apply below_drew1) | exact HB.out))) : w.heap.size ≤ gb134)); clear HB; have HB := n0_; have BK134 := n1_; have GW134 := n2_; have GE134 := n3_; clear n0_ n1_ n2_ n3_; clear hb hbox hg) | ((with_reducible refine gate_dst (N := 4) rfl ?_); refine box_event ?hg (N := 4) ?hd (cs := #[.int .i64 a1_0, .bool a1_1, .int .i64 a1_2, .bool a1_3, .slice A1_4 l1_4.length c1_4, .slice A1_5 l1_5.length c1_5]) (t := 34) ?hr ?_; (case hd => rfl); (case hg => rfl); (case hr => first | (go_simp; done) | (go_simp; rfl)); intro gb135 hg w40 hbox hb; have n0_ := Aside0.mk (blk_below (g := gb134) (o := .cells #[.int .i64 a0_0, .bool a0_1, .int .i64 a0_2, .bool a0_3, .slice A0_4 l0_4.length c0_4, .slice A0_5 l0_5.length c0_5] 34 (0, 0)) (by (with_reducible repeat (first | refine blk_drewN ?_ _ | refine blk_drew ?_ | refine blk_alloc ?_ _)); exact BK134.out) hb); have n1_ := Aside0.mk (below_step (by repeat (first | (with_reducible first | exact HB.out | apply below_alloc | apply pw_below_drewN | apply below_drew1 | refine below_set ?_ GE134.out) | exact HB.out)) hb); have n2_ := Aside0.mk (hbox); have n3_ := Aside0.mk ((by rw [hg]; exact (below_size (by repeat (first | (with_reducible first | exact HB.out | apply below_alloc | apply pw_below_drewN | apply below_drew1 | refine below_set ?_ GE134.out) | exact HB.out))) : w.heap.size ≤ gb135)); have n4_ := Aside0.mk ((by rw [hg]; exact (below_size (by repeat (first | (with_reducible first | exact HB.out | apply below_alloc | apply pw_below_drewN | apply below_drew1 | refine below_set ?_ GE134.out) | exact HB.out))) : w.heap.size ≤ gb135)); have n5_ := Aside0.mk ((by rw [hg]; exact Nat.ne_of_lt (blk_lt (g := gb134) (o := .cells #[.int .i64 a0_0, .bool a0_1, .int .i64 a0_2, .bool a0_3, .slice A0_4 l0_4.length c0_4, .slice A0_5 l0_5.length c0_5] 34 (0, 0)) (by (with_reducible repeat (first | refine blk_drewN ?_ _ | refine blk_drew ?_ | refine blk_alloc ?_ _)); exact BK134.out)) : gb134 ≠ gb135)); have n6_ := Aside0.mk ((by rw [hg]; exact Nat.ne_of_gt (blk_lt (g := gb134) (o := .cells #[.int .i64 a0_0, .bool a0_1, .int .i64 a0_2, .bool a0_3, .slice A0_4 l0_4.length c0_4, .slice A0_5 l0_5.length c0_5] 34 (0, 0)) (by (with_reducible repeat (first | refine blk_drewN ?_ _ | refine blk_drew ?_ | refine blk_alloc ?_ _)); exact BK134.out)) : gb135 ≠ gb134)); clear BK134; clear HB; have BK134 := n0_; have HB := n1_; have BK135 := n2_; have GW135 := n3_; have GE135 := n4_; have NB134_135 := n5_; have NB135_134 := n6_; clear n0_ n1_ n2_ n3_ n4_ n5_ n6_; clear hb hbox hg; have hnb41 := NB134_135.out; have hnc41 := NB135_134.out; have hcz42_0 : w40.cell? ⟨gb134, 0, none⟩ = some (.int .i64 a0_0) := (blk_cell BK134.out 0).trans rfl; have hcz42_1 : w40.cell? ⟨gb134, 1, none⟩ = some (.bool a0_1) := (blk_cell BK134.out 1).trans rfl; have hcz42_2 : w40.cell? ⟨gb134, 2, none⟩ = some (.int .i64 a0_2) := (blk_cell BK134.out 2).trans rfl; have hcz42_3 : w40.cell? ⟨gb134, 3, none⟩ = some (.bool a0_3) := (blk_cell BK134.out 3).trans rfl; have hcz42_4 : w40.cell? ⟨gb134, 4, none⟩ = some (.slice A0_4 l0_4.length c0_4) := (blk_cell BK134.out 4).trans rfl; have hcz42_5 : w40.cell? ⟨gb134, 5, none⟩ = some (.slice A0_5 l0_5.length c0_5) := (blk_cell BK134.out 5).trans rfl; have hfz42_0 := blk_frozen BK134.out 0; have hfz42_1 := blk_frozen BK134.out 1; have hfz42_2 := blk_frozen BK134.out 2; have hfz42_3 := blk_frozen BK134.out 3; have hfz42_4 := blk_frozen BK134.out 4; have hfz42_5 := blk_frozen BK134.out 5; have hcz43_0 : w40.cell? ⟨gb135, 0, none⟩ = some (.int .i64 a1_0) := (blk_cell BK135.out 0).trans rfl; have hcz43_1 : w40.cell? ⟨gb135, 1, none⟩ = some (.bool a1_1) := (blk_cell BK135.out 1).trans rfl; have hcz43_2 : w40.cell? ⟨gb135, 2, none⟩ = some (.int .i64 a1_2) := (blk_cell BK135.out 2).trans rfl; have hcz43_3 : w40.cell? ⟨gb135, 3, none⟩ = some (.bool a1_3) := (blk_cell BK135.out 3).trans rfl; have hcz43_4 : w40.cell? ⟨gb135, 4, none⟩ = some (.slice A1_4 l1_4.length c1_4) := (blk_cell BK135.out 4).trans rfl; have hcz43_5 : w40.cell? ⟨gb135, 5, none⟩ = some (.slice A1_5 l1_5.length c1_5) := (blk_cell BK135.out 5).trans rfl; have hfz43_0 := blk_frozen BK135.out 0; have hfz43_1 := blk_frozen BK135.out 1; have hfz43_2 := blk_frozen BK135.out 2; have hfz43_3 := blk_frozen BK135.out 3; have hfz43_4 := blk_frozen BK135.out 4; have hfz43_5 := blk_frozen BK135.out 5) | (go_at_call 50; (with_reducible refine (laws_sameFound.calls a0_0 a0_1 a1_0 a1_1 true _ A32.out).mono ?_); rintro e w44 ⟨rfl, hb⟩; have n0_ := Aside0.mk (blk_below (g := gb134) (o := .cells #[.int .i64 a0_0, .bool a0_1, .int .i64 a0_2, .bool a0_3, .slice A0_4 l0_4.length c0_4, .slice A0_5 l0_5.length c0_5] 34 (0, 0)) (by (with_reducible repeat (first | refine blk_drewN ?_ _ | refine blk_drew ?_ | refine blk_alloc ?_ _)); exact BK134.out) hb); have n1_ := Aside0.mk (blk_below (g := gb135) (o := .cells #[.int .i64 a1_0, .bool a1_1, .int .i64 a1_2, .bool a1_3, .slice A1_4 l1_4.length c1_4, .slice A1_5 l1_5.length c1_5] 34 (0, 0)) (by (with_reducible repeat (first | refine blk_drewN ?_ _ | refine blk_drew ?_ | refine blk_alloc ?_ _)); exact BK135.out) hb); have n2_ := Aside0.mk (below_step (by repeat (first | (with_reducible first | exact HB.out | apply below_alloc | apply pw_below_drewN | apply below_drew1 | refine below_set ?_ GE134.out | refine below_set ?_ GE135.out) | exact HB.out)) hb); clear BK134; clear BK135; clear HB; have BK134 := n0_; have BK135 := n1_; have HB := n2_; clear n0_ n1_ n2_; (try clear hb); (try clear hb2); (try clear hk); (try clear hi); have hcz45_0 : w44.cell? ⟨gb134, 0, none⟩ = some (.int .i64 a0_0) := (blk_cell BK134.out 0).trans rfl; have hcz45_1 : w44.cell? ⟨gb134, 1, none⟩ = some (.bool a0_1) := (blk_cell BK134.out 1).trans rfl; have hcz45_2 : w44.cell? ⟨gb134, 2, none⟩ = some (.int .i64 a0_2) := (blk_cell BK134.out 2).trans rfl; have hcz45_3 : w44.cell? ⟨gb134, 3, none⟩ = some (.bool a0_3) := (blk_cell BK134.out 3).trans rfl; have hcz45_4 : w44.cell? ⟨gb134, 4, none⟩ = some (.slice A0_4 l0_4.length c0_4) := (blk_cell BK134.out 4).trans rfl; have hcz45_5 : w44.cell? ⟨gb134, 5, none⟩ = some (.slice A0_5 l0_5.length c0_5) := (blk_cell BK134.out 5).trans rfl; have hfz45_0 := blk_frozen BK134.out 0; have hfz45_1 := blk_frozen BK134.out 1; have hfz45_2 := blk_frozen BK134.out 2; have hfz45_3 := blk_frozen BK134.out 3; have hfz45_4 := blk_frozen BK134.out 4; have hfz45_5 := blk_frozen BK134.out 5; have hcz46_0 : w44.cell? ⟨gb135, 0, none⟩ = some (.int .i64 a1_0) := (blk_cell BK135.out 0).trans rfl; have hcz46_1 : w44.cell? ⟨gb135, 1, none⟩ = some (.bool a1_1) := (blk_cell BK135.out 1).trans rfl; have hcz46_2 : w44.cell? ⟨gb135, 2, none⟩ = some (.int .i64 a1_2) := (blk_cell BK135.out 2).trans rfl; have hcz46_3 : w44.cell? ⟨gb135, 3, none⟩ = some (.bool a1_3) := (blk_cell BK135.out 3).trans rfl; have hcz46_4 : w44.cell? ⟨gb135, 4, none⟩ = some (.slice A1_4 l1_4.length c1_4) := (blk_cell BK135.out 4).trans rfl; have hcz46_5 : w44.cell? ⟨gb135, 5, none⟩ = some (.slice A1_5 l1_5.length c1_5) := (blk_cell BK135.out 5).trans rfl; have hfz46_0 := blk_frozen BK135.out 0; have hfz46_1 := blk_frozen BK135.out 1; have hfz46_2 := blk_frozen BK135.out 2; have hfz46_3 := blk_frozen BK135.out 3; have hfz46_4 := blk_frozen BK135.out 4; have hfz46_5 := blk_frozen BK135.out 5) | (go_at_call 50; (with_reducible refine (laws_sameFound.calls a0_2 a0_3 a1_2 a1_3 true _ A34.out).mono ?_); rintro e w47 ⟨rfl, hb⟩; have n0_ := Aside0.mk (blk_below (g := gb134) (o := .cells #[.int .i64 a0_0, .bool a0_1, .int .i64 a0_2, .bool a0_3, .slice A0_4 l0_4.length c0_4, .slice A0_5 l0_5.length c0_5] 34 (0, 0)) (by (with_reducible repeat (first | refine blk_drewN ?_ _ | refine blk_drew ?_ | refine blk_alloc ?_ _)); exact BK134.out) hb); have n1_ := Aside0.mk (blk_below (g := gb135) (o := .cells #[.int .i64 a1_0, .bool a1_1, .int .i64 a1_2, .bool a1_3, .slice A1_4 l1_4.length c1_4, .slice A1_5 l1_5.length c1_5] 34 (0, 0)) (by (with_reducible repeat (first | refine blk_drewN ?_ _ | refine blk_drew ?_ | refine blk_alloc ?_ _)); exact BK135.out) hb); have n2_ := Aside0.mk (below_step (by repeat (first | (with_reducible first | exact HB.out | apply below_alloc | apply pw_below_drewN | apply below_drew1 | refine below_set ?_ GE134.out | refine below_set ?_ GE135.out) | exact HB.out)) hb); clear BK134; clear BK135; clear HB; have BK134 := n0_; have BK135 := n1_; have HB := n2_; clear n0_ n1_ n2_; (try clear hb); (try clear hb2); (try clear hk); (try clear hi); have hcz48_0 : w47.cell? ⟨gb134, 0, none⟩ = some (.int .i64 a0_0) := (blk_cell BK134.out 0).trans rfl; have hcz48_1 : w47.cell? ⟨gb134, 1, none⟩ = some (.bool a0_1) := (blk_cell BK134.out 1).trans rfl; have hcz48_2 : w47.cell? ⟨gb134, 2, none⟩ = some (.int .i64 a0_2) := (blk_cell BK134.out 2).trans rfl; have hcz48_3 : w47.cell? ⟨gb134, 3, none⟩ = some (.bool a0_3) := (blk_cell BK134.out 3).trans rfl; have hcz48_4 : w47.cell? ⟨gb134, 4, none⟩ = some (.slice A0_4 l0_4.length c0_4) := (blk_cell BK134.out 4).trans rfl; have hcz48_5 : w47.cell? ⟨gb134, 5, none⟩ = some (.slice A0_5 l0_5.length c0_5) := (blk_cell BK134.out 5).trans rfl; have hfz48_0 := blk_frozen BK134.out 0; have hfz48_1 := blk_frozen BK134.out 1; have hfz48_2 := blk_frozen BK134.out 2; have hfz48_3 := blk_frozen BK134.out 3; have hfz48_4 := blk_frozen BK134.out 4; have hfz48_5 := blk_frozen BK134.out 5; have hcz49_0 : w47.cell? ⟨gb135, 0, none⟩ = some (.int .i64 a1_0) := (blk_cell BK135.out 0).trans rfl; have hcz49_1 : w47.cell? ⟨gb135, 1, none⟩ = some (.bool a1_1) := (blk_cell BK135.out 1).trans rfl; have hcz49_2 : w47.cell? ⟨gb135, 2, none⟩ = some (.int .i64 a1_2) := (blk_cell BK135.out 2).trans rfl; have hcz49_3 : w47.cell? ⟨gb135, 3, none⟩ = some (.bool a1_3) := (blk_cell BK135.out 3).trans rfl; have hcz49_4 : w47.cell? ⟨gb135, 4, none⟩ = some (.slice A1_4 l1_4.length c1_4) := (blk_cell BK135.out 4).trans rfl; have hcz49_5 : w47.cell? ⟨gb135, 5, none⟩ = some (.slice A1_5 l1_5.length c1_5) := (blk_cell BK135.out 5).trans rfl; have hfz49_0 := blk_frozen BK135.out 0; have hfz49_1 := blk_frozen BK135.out 1; have hfz49_2 := blk_frozen BK135.out 2; have hfz49_3 := blk_frozen BK135.out 3; have hfz49_4 := blk_frozen BK135.out 4; have hfz49_5 := blk_frozen BK135.out 5) | (go_at_call 16; (with_reducible refine (impl_Hit.calls k _ _ l0_4 _ _ l1_4 true _ ?side1 ?side2 ?side3 ?side4 A36.out).mono ?_); (case side1 => repeat (first | exact (Kd.C_below HR0_4.out HB.out) | (with_reducible refine Kd.C_alloc ?_ _) | (with_reducible refine Kd.C_drewN ?_ _) | (with_reducible refine Kd.C_drew ?_))); (case side2 => exact HC0_4.out); (case side3 => repeat (first | exact (Kd.C_below HR1_4.out HB.out) | (with_reducible refine Kd.C_alloc ?_ _) | (with_reducible refine Kd.C_drewN ?_ _) | (with_reducible refine Kd.C_drew ?_))); (case side4 => exact HC1_4.out); rintro e w' ⟨rfl, ⟨nd, rfl⟩⟩) | (go_at_call 16; (with_reducible refine (impl_Hit.calls k _ _ l0_5 _ _ l1_5 t142 _ ?side1 ?side2 ?side3 ?side4 A38.out).mono ?_); (case side1 => repeat (first | exact (Kd.C_below HR0_5.out (by repeat (first | (with_reducible first | exact HB.out | apply below_alloc | apply pw_below_drewN | apply below_drew1 | refine below_set ?_ GE134.out | refine below_set ?_ GE135.out) | exact HB.out))) | (with_reducible refine Kd.C_alloc ?_ _) | (with_reducible refine Kd.C_drewN ?_ _) | (with_reducible refine Kd.C_drew ?_))); (case side2 => exact HC0_5.out); (case side3 => repeat (first | exact (Kd.C_below HR1_5.out (by repeat (first | (with_reducible first | exact HB.out | apply below_alloc | apply pw_below_drewN | apply below_drew1 | refine below_set ?_ GE134.out | refine below_set ?_ GE135.out) | exact HB.out))) | (with_reducible refine Kd.C_alloc ?_ _) | (with_reducible refine Kd.C_drewN ?_ _) | (with_reducible refine Kd.C_drew ?_))); (case side4 => exact HC1_5.out); rintro e w' ⟨rfl, ⟨nd, rfl⟩⟩))
     go_ret
     exact ⟨by first | rfl | (simp [errW_none, errW_some] <;> rfl) | (simp [*, errW_none, errW_some] <;> rfl), by repeat (first | (with_reducible first | exact HB.out | apply below_alloc | apply pw_below_drewN | apply below_drew1 | refine below_set ?_ GE134.out | refine below_set ?_ GE135.out) | exact HB.out)⟩
    ·replace c37 := Bool.eq_false_iff.mpr c37
     subst c37
     have H1 : (some false) = some r := by rw [if_neg (show ¬ (false = true) by decide)] at H; exact H
     clear H
     have H := H1
     clear H1
     obtain rfl := Option.some.inj H
     go_enter Try.func30, Try.ntmps30
     go_wp2_with (first | ((with_reducible refine gate_dst (N := 3) rfl ?_); refine box_event ?hg (N := 3) ?hd (cs := #[.int .i64 a0_0, .bool a0_1, .int .i64 a0_2, .bool a0_3, .slice A0_4 l0_4.length c0_4, .slice A0_5 l0_5.length c0_5]) (t := 34) ?hr ?_; (case hd => rfl); (case hg => rfl); (case hr => first | (go_simp; done) | (go_simp; rfl)); intro gb134 hg w50 hbox hb; have n0_ := Aside0.mk (below_step (by repeat (first | (with_reducible first | exact HB.out | apply below_alloc | apply pw_below_drewN | apply below_drew1) | exact HB.out)) hb); have n1_ := Aside0.mk (hbox); have n2_ := Aside0.mk ((by rw [hg]; exact (below_size (by repeat (first | (with_reducible first | exact HB.out | apply below_alloc | apply pw_below_drewN | apply below_drew1) | exact HB.out))) : w.heap.size ≤ gb134)); have n3_ := Aside0.mk ((by rw [hg]; exact (below_size (by repeat (first | (with_reducible first | exact HB.out | apply below_alloc | apply pw_below_drewN | apply below_drew1) | exact HB.out))) : w.heap.size ≤ gb134)); clear HB; have HB := n0_; have BK134 := n1_; have GW134 := n2_; have GE134 := n3_; clear n0_ n1_ n2_ n3_; clear hb hbox hg) | ((with_reducible refine gate_dst (N := 4) rfl ?_); refine box_event ?hg (N := 4) ?hd (cs := #[.int .i64 a1_0, .bool a1_1, .int .i64 a1_2, .bool a1_3, .slice A1_4 l1_4.length c1_4, .slice A1_5 l1_5.length c1_5]) (t := 34) ?hr ?_; (case hd => rfl); (case hg => rfl); (case hr => first | (go_simp; done) | (go_simp; rfl)); intro gb135 hg w51 hbox hb; have n0_ := Aside0.mk (blk_below (g := gb134) (o := .cells #[.int .i64 a0_0, .bool a0_1, .int .i64 a0_2, .bool a0_3, .slice A0_4 l0_4.length c0_4, .slice A0_5 l0_5.length c0_5] 34 (0, 0)) (by (with_reducible repeat (first | refine blk_drewN ?_ _ | refine blk_drew ?_ | refine blk_alloc ?_ _)); exact BK134.out) hb); have n1_ := Aside0.mk (below_step (by repeat (first | (with_reducible first | exact HB.out | apply below_alloc | apply pw_below_drewN | apply below_drew1 | refine below_set ?_ GE134.out) | exact HB.out)) hb); have n2_ := Aside0.mk (hbox); have n3_ := Aside0.mk ((by rw [hg]; exact (below_size (by repeat (first | (with_reducible first | exact HB.out | apply below_alloc | apply pw_below_drewN | apply below_drew1 | refine below_set ?_ GE134.out) | exact HB.out))) : w.heap.size ≤ gb135)); have n4_ := Aside0.mk ((by rw [hg]; exact (below_size (by repeat (first | (with_reducible first | exact HB.out | apply below_alloc | apply pw_below_drewN | apply below_drew1 | refine below_set ?_ GE134.out) | exact HB.out))) : w.heap.size ≤ gb135)); have n5_ := Aside0.mk ((by rw [hg]; exact Nat.ne_of_lt (blk_lt (g := gb134) (o := .cells #[.int .i64 a0_0, .bool a0_1, .int .i64 a0_2, .bool a0_3, .slice A0_4 l0_4.length c0_4, .slice A0_5 l0_5.length c0_5] 34 (0, 0)) (by (with_reducible repeat (first | refine blk_drewN ?_ _ | refine blk_drew ?_ | refine blk_alloc ?_ _)); exact BK134.out)) : gb134 ≠ gb135)); have n6_ := Aside0.mk ((by rw [hg]; exact Nat.ne_of_gt (blk_lt (g := gb134) (o := .cells #[.int .i64 a0_0, .bool a0_1, .int .i64 a0_2, .bool a0_3, .slice A0_4 l0_4.length c0_4, .slice A0_5 l0_5.length c0_5] 34 (0, 0)) (by (with_reducible repeat (first | refine blk_drewN ?_ _ | refine blk_drew ?_ | refine blk_alloc ?_ _)); exact BK134.out)) : gb135 ≠ gb134)); clear BK134; clear HB; have BK134 := n0_; have HB := n1_; have BK135 := n2_; have GW135 := n3_; have GE135 := n4_; have NB134_135 := n5_; have NB135_134 := n6_; clear n0_ n1_ n2_ n3_ n4_ n5_ n6_; clear hb hbox hg; have hnb52 := NB134_135.out; have hnc52 := NB135_134.out; have hcz53_0 : w51.cell? ⟨gb134, 0, none⟩ = some (.int .i64 a0_0) := (blk_cell BK134.out 0).trans rfl; have hcz53_1 : w51.cell? ⟨gb134, 1, none⟩ = some (.bool a0_1) := (blk_cell BK134.out 1).trans rfl; have hcz53_2 : w51.cell? ⟨gb134, 2, none⟩ = some (.int .i64 a0_2) := (blk_cell BK134.out 2).trans rfl; have hcz53_3 : w51.cell? ⟨gb134, 3, none⟩ = some (.bool a0_3) := (blk_cell BK134.out 3).trans rfl; have hcz53_4 : w51.cell? ⟨gb134, 4, none⟩ = some (.slice A0_4 l0_4.length c0_4) := (blk_cell BK134.out 4).trans rfl; have hcz53_5 : w51.cell? ⟨gb134, 5, none⟩ = some (.slice A0_5 l0_5.length c0_5) := (blk_cell BK134.out 5).trans rfl; have hfz53_0 := blk_frozen BK134.out 0; have hfz53_1 := blk_frozen BK134.out 1; have hfz53_2 := blk_frozen BK134.out 2; have hfz53_3 := blk_frozen BK134.out 3; have hfz53_4 := blk_frozen BK134.out 4; have hfz53_5 := blk_frozen BK134.out 5; have hcz54_0 : w51.cell? ⟨gb135, 0, none⟩ = some (.int .i64 a1_0) := (blk_cell BK135.out 0).trans rfl; have hcz54_1 : w51.cell? ⟨gb135, 1, none⟩ = some (.bool a1_1) := (blk_cell BK135.out 1).trans rfl; have hcz54_2 : w51.cell? ⟨gb135, 2, none⟩ = some (.int .i64 a1_2) := (blk_cell BK135.out 2).trans rfl; have hcz54_3 : w51.cell? ⟨gb135, 3, none⟩ = some (.bool a1_3) := (blk_cell BK135.out 3).trans rfl; have hcz54_4 : w51.cell? ⟨gb135, 4, none⟩ = some (.slice A1_4 l1_4.length c1_4) := (blk_cell BK135.out 4).trans rfl; have hcz54_5 : w51.cell? ⟨gb135, 5, none⟩ = some (.slice A1_5 l1_5.length c1_5) := (blk_cell BK135.out 5).trans rfl; have hfz54_0 := blk_frozen BK135.out 0; have hfz54_1 := blk_frozen BK135.out 1; have hfz54_2 := blk_frozen BK135.out 2; have hfz54_3 := blk_frozen BK135.out 3; have hfz54_4 := blk_frozen BK135.out 4; have hfz54_5 := blk_frozen BK135.out 5) | (go_at_call 50; (with_reducible refine (laws_sameFound.calls a0_0 a0_1 a1_0 a1_1 true _ A32.out).mono ?_); rintro e w55 ⟨rfl, hb⟩; have n0_ := Aside0.mk (blk_below (g := gb134) (o := .cells #[.int .i64 a0_0, .bool a0_1, .int .i64 a0_2, .bool a0_3, .slice A0_4 l0_4.length c0_4, .slice A0_5 l0_5.length c0_5] 34 (0, 0)) (by (with_reducible repeat (first | refine blk_drewN ?_ _ | refine blk_drew ?_ | refine blk_alloc ?_ _)); exact BK134.out) hb); have n1_ := Aside0.mk (blk_below (g := gb135) (o := .cells #[.int .i64 a1_0, .bool a1_1, .int .i64 a1_2, .bool a1_3, .slice A1_4 l1_4.length c1_4, .slice A1_5 l1_5.length c1_5] 34 (0, 0)) (by (with_reducible repeat (first | refine blk_drewN ?_ _ | refine blk_drew ?_ | refine blk_alloc ?_ _)); exact BK135.out) hb); have n2_ := Aside0.mk (below_step (by repeat (first | (with_reducible first | exact HB.out | apply below_alloc | apply pw_below_drewN | apply below_drew1 | refine below_set ?_ GE134.out | refine below_set ?_ GE135.out) | exact HB.out)) hb); clear BK134; clear BK135; clear HB; have BK134 := n0_; have BK135 := n1_; have HB := n2_; clear n0_ n1_ n2_; (try clear hb); (try clear hb2); (try clear hk); (try clear hi); have hcz56_0 : w55.cell? ⟨gb134, 0, none⟩ = some (.int .i64 a0_0) := (blk_cell BK134.out 0).trans rfl; have hcz56_1 : w55.cell? ⟨gb134, 1, none⟩ = some (.bool a0_1) := (blk_cell BK134.out 1).trans rfl; have hcz56_2 : w55.cell? ⟨gb134, 2, none⟩ = some (.int .i64 a0_2) := (blk_cell BK134.out 2).trans rfl; have hcz56_3 : w55.cell? ⟨gb134, 3, none⟩ = some (.bool a0_3) := (blk_cell BK134.out 3).trans rfl; have hcz56_4 : w55.cell? ⟨gb134, 4, none⟩ = some (.slice A0_4 l0_4.length c0_4) := (blk_cell BK134.out 4).trans rfl; have hcz56_5 : w55.cell? ⟨gb134, 5, none⟩ = some (.slice A0_5 l0_5.length c0_5) := (blk_cell BK134.out 5).trans rfl; have hfz56_0 := blk_frozen BK134.out 0; have hfz56_1 := blk_frozen BK134.out 1; have hfz56_2 := blk_frozen BK134.out 2; have hfz56_3 := blk_frozen BK134.out 3; have hfz56_4 := blk_frozen BK134.out 4; have hfz56_5 := blk_frozen BK134.out 5; have hcz57_0 : w55.cell? ⟨gb135, 0, none⟩ = some (.int .i64 a1_0) := (blk_cell BK135.out 0).trans rfl; have hcz57_1 : w55.cell? ⟨gb135, 1, none⟩ = some (.bool a1_1) := (blk_cell BK135.out 1).trans rfl; have hcz57_2 : w55.cell? ⟨gb135, 2, none⟩ = some (.int .i64 a1_2) := (blk_cell BK135.out 2).trans rfl; have hcz57_3 : w55.cell? ⟨gb135, 3, none⟩ = some (.bool a1_3) := (blk_cell BK135.out 3).trans rfl; have hcz57_4 : w55.cell? ⟨gb135, 4, none⟩ = some (.slice A1_4 l1_4.length c1_4) := (blk_cell BK135.out 4).trans rfl; have hcz57_5 : w55.cell? ⟨gb135, 5, none⟩ = some (.slice A1_5 l1_5.length c1_5) := (blk_cell BK135.out 5).trans rfl; have hfz57_0 := blk_frozen BK135.out 0; have hfz57_1 := blk_frozen BK135.out 1; have hfz57_2 := blk_frozen BK135.out 2; have hfz57_3 := blk_frozen BK135.out 3; have hfz57_4 := blk_frozen BK135.out 4; have hfz57_5 := blk_frozen BK135.out 5) | (go_at_call 50; (with_reducible refine (laws_sameFound.calls a0_2 a0_3 a1_2 a1_3 true _ A34.out).mono ?_); rintro e w58 ⟨rfl, hb⟩; have n0_ := Aside0.mk (blk_below (g := gb134) (o := .cells #[.int .i64 a0_0, .bool a0_1, .int .i64 a0_2, .bool a0_3, .slice A0_4 l0_4.length c0_4, .slice A0_5 l0_5.length c0_5] 34 (0, 0)) (by (with_reducible repeat (first | refine blk_drewN ?_ _ | refine blk_drew ?_ | refine blk_alloc ?_ _)); exact BK134.out) hb); have n1_ := Aside0.mk (blk_below (g := gb135) (o := .cells #[.int .i64 a1_0, .bool a1_1, .int .i64 a1_2, .bool a1_3, .slice A1_4 l1_4.length c1_4, .slice A1_5 l1_5.length c1_5] 34 (0, 0)) (by (with_reducible repeat (first | refine blk_drewN ?_ _ | refine blk_drew ?_ | refine blk_alloc ?_ _)); exact BK135.out) hb); have n2_ := Aside0.mk (below_step (by repeat (first | (with_reducible first | exact HB.out | apply below_alloc | apply pw_below_drewN | apply below_drew1 | refine below_set ?_ GE134.out | refine below_set ?_ GE135.out) | exact HB.out)) hb); clear BK134; clear BK135; clear HB; have BK134 := n0_; have BK135 := n1_; have HB := n2_; clear n0_ n1_ n2_; (try clear hb); (try clear hb2); (try clear hk); (try clear hi); have hcz59_0 : w58.cell? ⟨gb134, 0, none⟩ = some (.int .i64 a0_0) := (blk_cell BK134.out 0).trans rfl; have hcz59_1 : w58.cell? ⟨gb134, 1, none⟩ = some (.bool a0_1) := (blk_cell BK134.out 1).trans rfl; have hcz59_2 : w58.cell? ⟨gb134, 2, none⟩ = some (.int .i64 a0_2) := (blk_cell BK134.out 2).trans rfl; have hcz59_3 : w58.cell? ⟨gb134, 3, none⟩ = some (.bool a0_3) := (blk_cell BK134.out 3).trans rfl; have hcz59_4 : w58.cell? ⟨gb134, 4, none⟩ = some (.slice A0_4 l0_4.length c0_4) := (blk_cell BK134.out 4).trans rfl; have hcz59_5 : w58.cell? ⟨gb134, 5, none⟩ = some (.slice A0_5 l0_5.length c0_5) := (blk_cell BK134.out 5).trans rfl; have hfz59_0 := blk_frozen BK134.out 0; have hfz59_1 := blk_frozen BK134.out 1; have hfz59_2 := blk_frozen BK134.out 2; have hfz59_3 := blk_frozen BK134.out 3; have hfz59_4 := blk_frozen BK134.out 4; have hfz59_5 := blk_frozen BK134.out 5; have hcz60_0 : w58.cell? ⟨gb135, 0, none⟩ = some (.int .i64 a1_0) := (blk_cell BK135.out 0).trans rfl; have hcz60_1 : w58.cell? ⟨gb135, 1, none⟩ = some (.bool a1_1) := (blk_cell BK135.out 1).trans rfl; have hcz60_2 : w58.cell? ⟨gb135, 2, none⟩ = some (.int .i64 a1_2) := (blk_cell BK135.out 2).trans rfl; have hcz60_3 : w58.cell? ⟨gb135, 3, none⟩ = some (.bool a1_3) := (blk_cell BK135.out 3).trans rfl; have hcz60_4 : w58.cell? ⟨gb135, 4, none⟩ = some (.slice A1_4 l1_4.length c1_4) := (blk_cell BK135.out 4).trans rfl; have hcz60_5 : w58.cell? ⟨gb135, 5, none⟩ = some (.slice A1_5 l1_5.length c1_5) := (blk_cell BK135.out 5).trans rfl; have hfz60_0 := blk_frozen BK135.out 0; have hfz60_1 := blk_frozen BK135.out 1; have hfz60_2 := blk_frozen BK135.out 2; have hfz60_3 := blk_frozen BK135.out 3; have hfz60_4 := blk_frozen BK135.out 4; have hfz60_5 := blk_frozen BK135.out 5) | (go_at_call 16; (with_reducible refine (impl_Hit.calls k _ _ l0_4 _ _ l1_4 false _ ?side1 ?side2 ?side3 ?side4 A36.out).mono ?_); (case side1 => repeat (first | exact (Kd.C_below HR0_4.out HB.out) | (with_reducible refine Kd.C_alloc ?_ _) | (with_reducible refine Kd.C_drewN ?_ _) | (with_reducible refine Kd.C_drew ?_))); (case side2 => exact HC0_4.out); (case side3 => repeat (first | exact (Kd.C_below HR1_4.out HB.out) | (with_reducible refine Kd.C_alloc ?_ _) | (with_reducible refine Kd.C_drewN ?_ _) | (with_reducible refine Kd.C_drew ?_))); (case side4 => exact HC1_4.out); rintro e w' ⟨rfl, ⟨nd, rfl⟩⟩))
     go_ret
     exact ⟨by first | rfl | (simp [errW_none, errW_some] <;> rfl) | (simp [*, errW_none, errW_some] <;> rfl), by repeat (first | (with_reducible first | exact HB.out | apply below_alloc | apply pw_below_drewN | apply below_drew1 | refine below_set ?_ GE134.out | refine below_set ?_ GE135.out) | exact HB.out)⟩
   ·replace c35 := Bool.eq_false_iff.mpr c35
    subst c35
    have H1 : (some false) = some r := by rw [if_neg (show ¬ (false = true) by decide)] at H; exact H
    clear H
    have H := H1
    clear H1
    obtain rfl := Option.some.inj H
    go_enter Try.func30, Try.ntmps30
    go_wp2_with (first | ((with_reducible refine gate_dst (N := 3) rfl ?_); refine box_event ?hg (N := 3) ?hd (cs := #[.int .i64 a0_0, .bool a0_1, .int .i64 a0_2, .bool a0_3, .slice A0_4 l0_4.length c0_4, .slice A0_5 l0_5.length c0_5]) (t := 34) ?hr ?_; (case hd => rfl); (case hg => rfl); (case hr => first | (go_simp; done) | (go_simp; rfl)); intro gb134 hg w61 hbox hb; have n0_ := Aside0.mk (below_step (by repeat (first | (with_reducible first | exact HB.out | apply below_alloc | apply pw_below_drewN | apply below_drew1) | exact HB.out)) hb); have n1_ := Aside0.mk (hbox); have n2_ := Aside0.mk ((by rw [hg]; exact (below_size (by repeat (first | (with_reducible first | exact HB.out | apply below_alloc | apply pw_below_drewN | apply below_drew1) | exact HB.out))) : w.heap.size ≤ gb134)); have n3_ := Aside0.mk ((by rw [hg]; exact (below_size (by repeat (first | (with_reducible first | exact HB.out | apply below_alloc | apply pw_below_drewN | apply below_drew1) | exact HB.out))) : w.heap.size ≤ gb134)); clear HB; have HB := n0_; have BK134 := n1_; have GW134 := n2_; have GE134 := n3_; clear n0_ n1_ n2_ n3_; clear hb hbox hg) | ((with_reducible refine gate_dst (N := 4) rfl ?_); refine box_event ?hg (N := 4) ?hd (cs := #[.int .i64 a1_0, .bool a1_1, .int .i64 a1_2, .bool a1_3, .slice A1_4 l1_4.length c1_4, .slice A1_5 l1_5.length c1_5]) (t := 34) ?hr ?_; (case hd => rfl); (case hg => rfl); (case hr => first | (go_simp; done) | (go_simp; rfl)); intro gb135 hg w62 hbox hb; have n0_ := Aside0.mk (blk_below (g := gb134) (o := .cells #[.int .i64 a0_0, .bool a0_1, .int .i64 a0_2, .bool a0_3, .slice A0_4 l0_4.length c0_4, .slice A0_5 l0_5.length c0_5] 34 (0, 0)) (by (with_reducible repeat (first | refine blk_drewN ?_ _ | refine blk_drew ?_ | refine blk_alloc ?_ _)); exact BK134.out) hb); have n1_ := Aside0.mk (below_step (by repeat (first | (with_reducible first | exact HB.out | apply below_alloc | apply pw_below_drewN | apply below_drew1 | refine below_set ?_ GE134.out) | exact HB.out)) hb); have n2_ := Aside0.mk (hbox); have n3_ := Aside0.mk ((by rw [hg]; exact (below_size (by repeat (first | (with_reducible first | exact HB.out | apply below_alloc | apply pw_below_drewN | apply below_drew1 | refine below_set ?_ GE134.out) | exact HB.out))) : w.heap.size ≤ gb135)); have n4_ := Aside0.mk ((by rw [hg]; exact (below_size (by repeat (first | (with_reducible first | exact HB.out | apply below_alloc | apply pw_below_drewN | apply below_drew1 | refine below_set ?_ GE134.out) | exact HB.out))) : w.heap.size ≤ gb135)); have n5_ := Aside0.mk ((by rw [hg]; exact Nat.ne_of_lt (blk_lt (g := gb134) (o := .cells #[.int .i64 a0_0, .bool a0_1, .int .i64 a0_2, .bool a0_3, .slice A0_4 l0_4.length c0_4, .slice A0_5 l0_5.length c0_5] 34 (0, 0)) (by (with_reducible repeat (first | refine blk_drewN ?_ _ | refine blk_drew ?_ | refine blk_alloc ?_ _)); exact BK134.out)) : gb134 ≠ gb135)); have n6_ := Aside0.mk ((by rw [hg]; exact Nat.ne_of_gt (blk_lt (g := gb134) (o := .cells #[.int .i64 a0_0, .bool a0_1, .int .i64 a0_2, .bool a0_3, .slice A0_4 l0_4.length c0_4, .slice A0_5 l0_5.length c0_5] 34 (0, 0)) (by (with_reducible repeat (first | refine blk_drewN ?_ _ | refine blk_drew ?_ | refine blk_alloc ?_ _)); exact BK134.out)) : gb135 ≠ gb134)); clear BK134; clear HB; have BK134 := n0_; have HB := n1_; have BK135 := n2_; have GW135 := n3_; have GE135 := n4_; have NB134_135 := n5_; have NB135_134 := n6_; clear n0_ n1_ n2_ n3_ n4_ n5_ n6_; clear hb hbox hg; have hnb63 := NB134_135.out; have hnc63 := NB135_134.out; have hcz64_0 : w62.cell? ⟨gb134, 0, none⟩ = some (.int .i64 a0_0) := (blk_cell BK134.out 0).trans rfl; have hcz64_1 : w62.cell? ⟨gb134, 1, none⟩ = some (.bool a0_1) := (blk_cell BK134.out 1).trans rfl; have hcz64_2 : w62.cell? ⟨gb134, 2, none⟩ = some (.int .i64 a0_2) := (blk_cell BK134.out 2).trans rfl; have hcz64_3 : w62.cell? ⟨gb134, 3, none⟩ = some (.bool a0_3) := (blk_cell BK134.out 3).trans rfl; have hcz64_4 : w62.cell? ⟨gb134, 4, none⟩ = some (.slice A0_4 l0_4.length c0_4) := (blk_cell BK134.out 4).trans rfl; have hcz64_5 : w62.cell? ⟨gb134, 5, none⟩ = some (.slice A0_5 l0_5.length c0_5) := (blk_cell BK134.out 5).trans rfl; have hfz64_0 := blk_frozen BK134.out 0; have hfz64_1 := blk_frozen BK134.out 1; have hfz64_2 := blk_frozen BK134.out 2; have hfz64_3 := blk_frozen BK134.out 3; have hfz64_4 := blk_frozen BK134.out 4; have hfz64_5 := blk_frozen BK134.out 5; have hcz65_0 : w62.cell? ⟨gb135, 0, none⟩ = some (.int .i64 a1_0) := (blk_cell BK135.out 0).trans rfl; have hcz65_1 : w62.cell? ⟨gb135, 1, none⟩ = some (.bool a1_1) := (blk_cell BK135.out 1).trans rfl; have hcz65_2 : w62.cell? ⟨gb135, 2, none⟩ = some (.int .i64 a1_2) := (blk_cell BK135.out 2).trans rfl; have hcz65_3 : w62.cell? ⟨gb135, 3, none⟩ = some (.bool a1_3) := (blk_cell BK135.out 3).trans rfl; have hcz65_4 : w62.cell? ⟨gb135, 4, none⟩ = some (.slice A1_4 l1_4.length c1_4) := (blk_cell BK135.out 4).trans rfl; have hcz65_5 : w62.cell? ⟨gb135, 5, none⟩ = some (.slice A1_5 l1_5.length c1_5) := (blk_cell BK135.out 5).trans rfl; have hfz65_0 := blk_frozen BK135.out 0; have hfz65_1 := blk_frozen BK135.out 1; have hfz65_2 := blk_frozen BK135.out 2; have hfz65_3 := blk_frozen BK135.out 3; have hfz65_4 := blk_frozen BK135.out 4; have hfz65_5 := blk_frozen BK135.out 5) | (go_at_call 50; (with_reducible refine (laws_sameFound.calls a0_0 a0_1 a1_0 a1_1 true _ A32.out).mono ?_); rintro e w66 ⟨rfl, hb⟩; have n0_ := Aside0.mk (blk_below (g := gb134) (o := .cells #[.int .i64 a0_0, .bool a0_1, .int .i64 a0_2, .bool a0_3, .slice A0_4 l0_4.length c0_4, .slice A0_5 l0_5.length c0_5] 34 (0, 0)) (by (with_reducible repeat (first | refine blk_drewN ?_ _ | refine blk_drew ?_ | refine blk_alloc ?_ _)); exact BK134.out) hb); have n1_ := Aside0.mk (blk_below (g := gb135) (o := .cells #[.int .i64 a1_0, .bool a1_1, .int .i64 a1_2, .bool a1_3, .slice A1_4 l1_4.length c1_4, .slice A1_5 l1_5.length c1_5] 34 (0, 0)) (by (with_reducible repeat (first | refine blk_drewN ?_ _ | refine blk_drew ?_ | refine blk_alloc ?_ _)); exact BK135.out) hb); have n2_ := Aside0.mk (below_step (by repeat (first | (with_reducible first | exact HB.out | apply below_alloc | apply pw_below_drewN | apply below_drew1 | refine below_set ?_ GE134.out | refine below_set ?_ GE135.out) | exact HB.out)) hb); clear BK134; clear BK135; clear HB; have BK134 := n0_; have BK135 := n1_; have HB := n2_; clear n0_ n1_ n2_; (try clear hb); (try clear hb2); (try clear hk); (try clear hi); have hcz67_0 : w66.cell? ⟨gb134, 0, none⟩ = some (.int .i64 a0_0) := (blk_cell BK134.out 0).trans rfl; have hcz67_1 : w66.cell? ⟨gb134, 1, none⟩ = some (.bool a0_1) := (blk_cell BK134.out 1).trans rfl; have hcz67_2 : w66.cell? ⟨gb134, 2, none⟩ = some (.int .i64 a0_2) := (blk_cell BK134.out 2).trans rfl; have hcz67_3 : w66.cell? ⟨gb134, 3, none⟩ = some (.bool a0_3) := (blk_cell BK134.out 3).trans rfl; have hcz67_4 : w66.cell? ⟨gb134, 4, none⟩ = some (.slice A0_4 l0_4.length c0_4) := (blk_cell BK134.out 4).trans rfl; have hcz67_5 : w66.cell? ⟨gb134, 5, none⟩ = some (.slice A0_5 l0_5.length c0_5) := (blk_cell BK134.out 5).trans rfl; have hfz67_0 := blk_frozen BK134.out 0; have hfz67_1 := blk_frozen BK134.out 1; have hfz67_2 := blk_frozen BK134.out 2; have hfz67_3 := blk_frozen BK134.out 3; have hfz67_4 := blk_frozen BK134.out 4; have hfz67_5 := blk_frozen BK134.out 5; have hcz68_0 : w66.cell? ⟨gb135, 0, none⟩ = some (.int .i64 a1_0) := (blk_cell BK135.out 0).trans rfl; have hcz68_1 : w66.cell? ⟨gb135, 1, none⟩ = some (.bool a1_1) := (blk_cell BK135.out 1).trans rfl; have hcz68_2 : w66.cell? ⟨gb135, 2, none⟩ = some (.int .i64 a1_2) := (blk_cell BK135.out 2).trans rfl; have hcz68_3 : w66.cell? ⟨gb135, 3, none⟩ = some (.bool a1_3) := (blk_cell BK135.out 3).trans rfl; have hcz68_4 : w66.cell? ⟨gb135, 4, none⟩ = some (.slice A1_4 l1_4.length c1_4) := (blk_cell BK135.out 4).trans rfl; have hcz68_5 : w66.cell? ⟨gb135, 5, none⟩ = some (.slice A1_5 l1_5.length c1_5) := (blk_cell BK135.out 5).trans rfl; have hfz68_0 := blk_frozen BK135.out 0; have hfz68_1 := blk_frozen BK135.out 1; have hfz68_2 := blk_frozen BK135.out 2; have hfz68_3 := blk_frozen BK135.out 3; have hfz68_4 := blk_frozen BK135.out 4; have hfz68_5 := blk_frozen BK135.out 5) | (go_at_call 50; (with_reducible refine (laws_sameFound.calls a0_2 a0_3 a1_2 a1_3 false _ A34.out).mono ?_); rintro e w69 ⟨rfl, hb⟩; have n0_ := Aside0.mk (blk_below (g := gb134) (o := .cells #[.int .i64 a0_0, .bool a0_1, .int .i64 a0_2, .bool a0_3, .slice A0_4 l0_4.length c0_4, .slice A0_5 l0_5.length c0_5] 34 (0, 0)) (by (with_reducible repeat (first | refine blk_drewN ?_ _ | refine blk_drew ?_ | refine blk_alloc ?_ _)); exact BK134.out) hb); have n1_ := Aside0.mk (blk_below (g := gb135) (o := .cells #[.int .i64 a1_0, .bool a1_1, .int .i64 a1_2, .bool a1_3, .slice A1_4 l1_4.length c1_4, .slice A1_5 l1_5.length c1_5] 34 (0, 0)) (by (with_reducible repeat (first | refine blk_drewN ?_ _ | refine blk_drew ?_ | refine blk_alloc ?_ _)); exact BK135.out) hb); have n2_ := Aside0.mk (below_step (by repeat (first | (with_reducible first | exact HB.out | apply below_alloc | apply pw_below_drewN | apply below_drew1 | refine below_set ?_ GE134.out | refine below_set ?_ GE135.out) | exact HB.out)) hb); clear BK134; clear BK135; clear HB; have BK134 := n0_; have BK135 := n1_; have HB := n2_; clear n0_ n1_ n2_; (try clear hb); (try clear hb2); (try clear hk); (try clear hi)))
    go_ret
    exact ⟨by first | rfl | (simp [errW_none, errW_some] <;> rfl) | (simp [*, errW_none, errW_some] <;> rfl), by repeat (first | (with_reducible first | exact HB.out | apply below_alloc | apply pw_below_drewN | apply below_drew1 | refine below_set ?_ GE134.out | refine below_set ?_ GE135.out) | exact HB.out)⟩
  ·replace c33 := Bool.eq_false_iff.mpr c33
   subst c33
   have H1 : (some false) = some r := by rw [if_neg (show ¬ (false = true) by decide)] at H; exact H
   clear H
   have H := H1
   clear H1
   obtain rfl := Option.some.inj H
   go_enter Try.func30, Try.ntmps30
   go_wp2_with (first | ((with_reducible refine gate_dst (N := 3) rfl ?_); refine box_event ?hg (N := 3) ?hd (cs := #[.int .i64 a0_0, .bool a0_1, .int .i64 a0_2, .bool a0_3, .slice A0_4 l0_4.length c0_4, .slice A0_5 l0_5.length c0_5]) (t := 34) ?hr ?_; (case hd => rfl); (case hg => rfl); (case hr => first | (go_simp; done) | (go_simp; rfl)); intro gb134 hg w70 hbox hb; have n0_ := Aside0.mk (below_step (by repeat (first | (with_reducible first | exact HB.out | apply below_alloc | apply pw_below_drewN | apply below_drew1) | exact HB.out)) hb); have n1_ := Aside0.mk (hbox); have n2_ := Aside0.mk ((by rw [hg]; exact (below_size (by repeat (first | (with_reducible first | exact HB.out | apply below_alloc | apply pw_below_drewN | apply below_drew1) | exact HB.out))) : w.heap.size ≤ gb134)); have n3_ := Aside0.mk ((by rw [hg]; exact (below_size (by repeat (first | (with_reducible first | exact HB.out | apply below_alloc | apply pw_below_drewN | apply below_drew1) | exact HB.out))) : w.heap.size ≤ gb134)); clear HB; have HB := n0_; have BK134 := n1_; have GW134 := n2_; have GE134 := n3_; clear n0_ n1_ n2_ n3_; clear hb hbox hg) | ((with_reducible refine gate_dst (N := 4) rfl ?_); refine box_event ?hg (N := 4) ?hd (cs := #[.int .i64 a1_0, .bool a1_1, .int .i64 a1_2, .bool a1_3, .slice A1_4 l1_4.length c1_4, .slice A1_5 l1_5.length c1_5]) (t := 34) ?hr ?_; (case hd => rfl); (case hg => rfl); (case hr => first | (go_simp; done) | (go_simp; rfl)); intro gb135 hg w71 hbox hb; have n0_ := Aside0.mk (blk_below (g := gb134) (o := .cells #[.int .i64 a0_0, .bool a0_1, .int .i64 a0_2, .bool a0_3, .slice A0_4 l0_4.length c0_4, .slice A0_5 l0_5.length c0_5] 34 (0, 0)) (by (with_reducible repeat (first | refine blk_drewN ?_ _ | refine blk_drew ?_ | refine blk_alloc ?_ _)); exact BK134.out) hb); have n1_ := Aside0.mk (below_step (by repeat (first | (with_reducible first | exact HB.out | apply below_alloc | apply pw_below_drewN | apply below_drew1 | refine below_set ?_ GE134.out) | exact HB.out)) hb); have n2_ := Aside0.mk (hbox); have n3_ := Aside0.mk ((by rw [hg]; exact (below_size (by repeat (first | (with_reducible first | exact HB.out | apply below_alloc | apply pw_below_drewN | apply below_drew1 | refine below_set ?_ GE134.out) | exact HB.out))) : w.heap.size ≤ gb135)); have n4_ := Aside0.mk ((by rw [hg]; exact (below_size (by repeat (first | (with_reducible first | exact HB.out | apply below_alloc | apply pw_below_drewN | apply below_drew1 | refine below_set ?_ GE134.out) | exact HB.out))) : w.heap.size ≤ gb135)); have n5_ := Aside0.mk ((by rw [hg]; exact Nat.ne_of_lt (blk_lt (g := gb134) (o := .cells #[.int .i64 a0_0, .bool a0_1, .int .i64 a0_2, .bool a0_3, .slice A0_4 l0_4.length c0_4, .slice A0_5 l0_5.length c0_5] 34 (0, 0)) (by (with_reducible repeat (first | refine blk_drewN ?_ _ | refine blk_drew ?_ | refine blk_alloc ?_ _)); exact BK134.out)) : gb134 ≠ gb135)); have n6_ := Aside0.mk ((by rw [hg]; exact Nat.ne_of_gt (blk_lt (g := gb134) (o := .cells #[.int .i64 a0_0, .bool a0_1, .int .i64 a0_2, .bool a0_3, .slice A0_4 l0_4.length c0_4, .slice A0_5 l0_5.length c0_5] 34 (0, 0)) (by (with_reducible repeat (first | refine blk_drewN ?_ _ | refine blk_drew ?_ | refine blk_alloc ?_ _)); exact BK134.out)) : gb135 ≠ gb134)); clear BK134; clear HB; have BK134 := n0_; have HB := n1_; have BK135 := n2_; have GW135 := n3_; have GE135 := n4_; have NB134_135 := n5_; have NB135_134 := n6_; clear n0_ n1_ n2_ n3_ n4_ n5_ n6_; clear hb hbox hg; have hnb72 := NB134_135.out; have hnc72 := NB135_134.out; have hcz73_0 : w71.cell? ⟨gb134, 0, none⟩ = some (.int .i64 a0_0) := (blk_cell BK134.out 0).trans rfl; have hcz73_1 : w71.cell? ⟨gb134, 1, none⟩ = some (.bool a0_1) := (blk_cell BK134.out 1).trans rfl; have hcz73_2 : w71.cell? ⟨gb134, 2, none⟩ = some (.int .i64 a0_2) := (blk_cell BK134.out 2).trans rfl; have hcz73_3 : w71.cell? ⟨gb134, 3, none⟩ = some (.bool a0_3) := (blk_cell BK134.out 3).trans rfl; have hcz73_4 : w71.cell? ⟨gb134, 4, none⟩ = some (.slice A0_4 l0_4.length c0_4) := (blk_cell BK134.out 4).trans rfl; have hcz73_5 : w71.cell? ⟨gb134, 5, none⟩ = some (.slice A0_5 l0_5.length c0_5) := (blk_cell BK134.out 5).trans rfl; have hfz73_0 := blk_frozen BK134.out 0; have hfz73_1 := blk_frozen BK134.out 1; have hfz73_2 := blk_frozen BK134.out 2; have hfz73_3 := blk_frozen BK134.out 3; have hfz73_4 := blk_frozen BK134.out 4; have hfz73_5 := blk_frozen BK134.out 5; have hcz74_0 : w71.cell? ⟨gb135, 0, none⟩ = some (.int .i64 a1_0) := (blk_cell BK135.out 0).trans rfl; have hcz74_1 : w71.cell? ⟨gb135, 1, none⟩ = some (.bool a1_1) := (blk_cell BK135.out 1).trans rfl; have hcz74_2 : w71.cell? ⟨gb135, 2, none⟩ = some (.int .i64 a1_2) := (blk_cell BK135.out 2).trans rfl; have hcz74_3 : w71.cell? ⟨gb135, 3, none⟩ = some (.bool a1_3) := (blk_cell BK135.out 3).trans rfl; have hcz74_4 : w71.cell? ⟨gb135, 4, none⟩ = some (.slice A1_4 l1_4.length c1_4) := (blk_cell BK135.out 4).trans rfl; have hcz74_5 : w71.cell? ⟨gb135, 5, none⟩ = some (.slice A1_5 l1_5.length c1_5) := (blk_cell BK135.out 5).trans rfl; have hfz74_0 := blk_frozen BK135.out 0; have hfz74_1 := blk_frozen BK135.out 1; have hfz74_2 := blk_frozen BK135.out 2; have hfz74_3 := blk_frozen BK135.out 3; have hfz74_4 := blk_frozen BK135.out 4; have hfz74_5 := blk_frozen BK135.out 5) | (go_at_call 50; (with_reducible refine (laws_sameFound.calls a0_0 a0_1 a1_0 a1_1 false _ A32.out).mono ?_); rintro e w75 ⟨rfl, hb⟩; have n0_ := Aside0.mk (blk_below (g := gb134) (o := .cells #[.int .i64 a0_0, .bool a0_1, .int .i64 a0_2, .bool a0_3, .slice A0_4 l0_4.length c0_4, .slice A0_5 l0_5.length c0_5] 34 (0, 0)) (by (with_reducible repeat (first | refine blk_drewN ?_ _ | refine blk_drew ?_ | refine blk_alloc ?_ _)); exact BK134.out) hb); have n1_ := Aside0.mk (blk_below (g := gb135) (o := .cells #[.int .i64 a1_0, .bool a1_1, .int .i64 a1_2, .bool a1_3, .slice A1_4 l1_4.length c1_4, .slice A1_5 l1_5.length c1_5] 34 (0, 0)) (by (with_reducible repeat (first | refine blk_drewN ?_ _ | refine blk_drew ?_ | refine blk_alloc ?_ _)); exact BK135.out) hb); have n2_ := Aside0.mk (below_step (by repeat (first | (with_reducible first | exact HB.out | apply below_alloc | apply pw_below_drewN | apply below_drew1 | refine below_set ?_ GE134.out | refine below_set ?_ GE135.out) | exact HB.out)) hb); clear BK134; clear BK135; clear HB; have BK134 := n0_; have BK135 := n1_; have HB := n2_; clear n0_ n1_ n2_; (try clear hb); (try clear hb2); (try clear hk); (try clear hi)))
   go_ret
   exact ⟨by first | rfl | (simp [errW_none, errW_some] <;> rfl) | (simp [*, errW_none, errW_some] <;> rfl), by repeat (first | (with_reducible first | exact HB.out | apply below_alloc | apply pw_below_drewN | apply below_drew1 | refine below_set ?_ GE134.out | refine below_set ?_ GE135.out) | exact HB.out)⟩

/-! ### spec_dBegins: function 51 -/
def spec_dBegins.f (a0 : ByteArray) (a1 : ByteArray) : Option (Bool) := if (a0.size : Int) ≥ (a1.size : Int) then (if 0 ≤ (a1.size : Int) then (if (a1.size : Int) ≤ (a0.size : Int) then (some ((a0.extract 0 ((a1.size : Int) : Int).toNat).toList == a1.toList)) else (none)) else (none)) else (some false)
set_option maxHeartbeats 8000000 in
set_option maxRecDepth 100000 in
theorem spec_dBegins.calls (a0 : ByteArray) (a1 : ByteArray) (r : Bool) (w : World) (h : spec_dBegins.f a0 a1 = some r) :
  Calls Try.prog 51 #[.string a0, .string a1] w fun e w' => e = .returned (.bool r) ∧ Drawn0 w w' := by
 have H : (if (a0.size : Int) ≥ (a1.size : Int) then (if 0 ≤ (a1.size : Int) then (if (a1.size : Int) ≤ (a0.size : Int) then (some ((a0.extract 0 ((a1.size : Int) : Int).toNat).toList == a1.toList)) else (none)) else (none)) else (some false)) = some r := h
 clear h
 by_cases c3 : (a0.size : Int) ≥ (a1.size : Int)
 ·rw [if_pos c3] at H
  have c3b0 : decide ((a1.size : Int) ≤ (a0.size : Int)) = true := decide_eq_true c3
  have c3b1 : decide (a1.size ≤ a0.size) = true := decide_eq_true (Int.ofNat_le.mp c3)
  clear c3
  by_cases c4 : 0 ≤ (a1.size : Int)
  ·rw [if_pos c4] at H
   have c4b0 := eq_true c4
   have c4b1 : decide (0 ≤ (a1.size : Int)) = true := decide_eq_true c4
   clear c4
   by_cases c5 : (a1.size : Int) ≤ (a0.size : Int)
   ·rw [if_pos c5] at H
    have c5b0 := eq_true c5
    have c5b1 : decide ((a1.size : Int) ≤ (a0.size : Int)) = true := decide_eq_true c5
    clear c5
    obtain rfl := Option.some.inj H
    go_enter Try.func51, Try.ntmps51
    go_wp2
    go_ret
    exact ⟨by first | rfl | (simp; done) | (simp [*]; done) | (simp [Own.isEmpty_bne]; done), by repeat (first | exact Drawn0.refl _ | apply Drawn0.step)⟩
   ·rw [if_neg c5] at H
    exact absurd H (by simp)
  ·rw [if_neg c4] at H
   exact absurd H (by simp)
 ·rw [if_neg c3] at H
  have c3b0 : decide ((a1.size : Int) ≤ (a0.size : Int)) = false := decide_eq_false c3
  have c3b1 : decide (a1.size ≤ a0.size) = false := decide_eq_false (fun h => c3 (Int.ofNat_le.mpr h))
  clear c3
  obtain rfl := Option.some.inj H
  go_enter Try.func51, Try.ntmps51
  go_wp2
  go_ret
  exact ⟨by first | rfl | (simp; done) | (simp [*]; done) | (simp [Own.isEmpty_bne]; done), by repeat (first | exact Drawn0.refl _ | apply Drawn0.step)⟩

end Go.Proofs.Ytaejkbjepbifcaa.PB
namespace Go.Proofs.Ytaejkbjepbifcaa.Da
open Go.RowKit Go.Proofs.YtaejkbjepbifcaaW.PrintWords
set_option linter.unusedVariables false
set_option linter.unusedSimpArgs false
def ans (L : Keys) (t : ByteArray) : PB.S34 := ⟨⟨(fnd L t).1, (fnd L t).2⟩, ⟨(lng L t).1, (lng L t).2⟩, hitsS L (bs t) (bs t).length, hitsS L (bs t) (bs t).length⟩
/-- The deferred function finds no panic. -/
theorem ask1_idle (p q : Addr) (w : World) :
    CallsD Try.prog 43 #[.pointer (some p), .pointer (some q)] .returning w fun e u' w' => e = .returned (.tuple #[]) ∧ u' = .returning ∧ w' = w := by
  refine callsD_of_wpS Try.func43 rfl fun c₀ cs hu => ?_
  apply wpS_seq
  apply wpS_region
  simp [wpOpsS, go_sem, recoverD, hu, Try.ntmps43, Exit.thenS]
  refine wpS_cond (t := false) (by simp [Act.eval, Array.replicate]) ?_
  simp only [Bool.false_eq_true, if_false]
  refine wpS_of_wp (wp_skip ?_)
  cases c₀
  simp_all [bodyPostS, results, Try.results43]
/-- So many inputs have been asked. -/
structure AskS (W w : World) (L : Keys) (ov : Value) (l : List ByteArray) : Prop where
  kp : Kp W w (fun _ => False)
  o : w.heap[W.heap.size]? = some (.cells #[ov] 42 (0, 0))
  e : w.heap[W.heap.size + 1]? = some (.cells #[.int .i64 0] 3 (0, 0))
  r : Kd.R PB.k34 34 w (W.heap.size + 2) (fun _ => True) ov (l.map (ans L))
theorem asks_start (W : World) (L : Keys) : AskS W ((W.alloc (.cells #[.slice none 0 0] 42)).alloc (.cells #[.int .i64 0] 3)) L (.slice none 0 0) [] := by
  have e1 : (W.alloc (.cells #[.slice none 0 0] 42)).heap.size = W.heap.size + 1 := Own.size_alloc _ _
  refine ⟨((Kp.self W _).alloc _).alloc _, ?_, ?_, Kd.R_nil _ _ _ _ _⟩
  · exact ((below_alloc (Below.refl _ _) _).block _ (by rw [e1]; omega)).trans (blk_new W _)
  · rw [← e1]; exact blk_new _ _
/-- A cell of a row of texts. -/
theorem str_cell {W : World} {A : Option Addr} {ss : List ByteArray} (h : Kd.C Kd.string W A ss.length ss) (j : Nat) (hj : j < ss.length) : ∃ ad, A = some ad ∧ W.cell? (ad.add j) = some (.string (ss.getD j ByteArray.empty)) := by
  obtain ⟨ad, c, e, _, hK, hc0⟩ := Kd.C_get h ByteArray.empty (j : Int) (by omega) (by omega)
  have hK : c = [.string _] := hK
  subst hK
  have := hc0 0 _ rfl
  rw [Int.toNat_natCast] at this
  have e1 : (Kd.string).sz = 1 := rfl
  rw [e1, Nat.mul_one, Nat.add_zero] at this
  exact ⟨ad, e, this⟩
theorem cell_lt {w : World} {a : Addr} {v : Value} (h : w.cell? a = some v) : a.block < w.heap.size := by
  rcases Nat.lt_or_ge a.block w.heap.size with h1 | h1
  · exact h1
  · unfold World.cell? at h
    rw [Array.getElem?_eq_none h1] at h
    simp at h
theorem AskS.kp_cell {W w : World} {L : Keys} {ov : Value} {l : List ByteArray} (h : AskS W w L ov l) {a : Addr} {v : Value} (hc : W.cell? a = some v) : w.cell? a = some v := by
  rw [← hc]
  exact World.cell?_of_block (w := W) (h.kp.old _ (cell_lt hc) id)
def AskE (W w' : World) (L : Keys) (ss : List ByteArray) (e : Ending) : Prop := ∃ ov, e = .returned (.tuple #[ov, .int .i64 0]) ∧ Kd.R PB.k34 34 w' W.heap.size (fun _ => True) ov (ss.map (ans L)) ∧ Below W.heap.size W w'
theorem ABox.set0 {W : World} {xb : Nat} {c0 c1 c2 c3 c4 cv : Value} (h : ABox W xb c0 c1 c2 c3 c4 cv) (v : Value) : ABox (W.setCell ⟨xb, 0, none⟩ v) xb v c1 c2 c3 c4 cv := (setCell_heap h).trans (by rfl)
theorem ABox.set1 {W : World} {xb : Nat} {c0 c1 c2 c3 c4 cv : Value} (h : ABox W xb c0 c1 c2 c3 c4 cv) (v : Value) : ABox (W.setCell ⟨xb, 1, none⟩ v) xb c0 v c2 c3 c4 cv := (setCell_heap h).trans (by rfl)
theorem ABox.set2 {W : World} {xb : Nat} {c0 c1 c2 c3 c4 cv : Value} (h : ABox W xb c0 c1 c2 c3 c4 cv) (v : Value) : ABox (W.setCell ⟨xb, 2, none⟩ v) xb c0 c1 v c3 c4 cv := (setCell_heap h).trans (by rfl)
theorem ABox.set3 {W : World} {xb : Nat} {c0 c1 c2 c3 c4 cv : Value} (h : ABox W xb c0 c1 c2 c3 c4 cv) (v : Value) : ABox (W.setCell ⟨xb, 3, none⟩ v) xb c0 c1 c2 v c4 cv := (setCell_heap h).trans (by rfl)
theorem ABox.set4 {W : World} {xb : Nat} {c0 c1 c2 c3 c4 cv : Value} (h : ABox W xb c0 c1 c2 c3 c4 cv) (v : Value) : ABox (W.setCell ⟨xb, 4, none⟩ v) xb c0 c1 c2 c3 v cv := (setCell_heap h).trans (by rfl)
theorem ABox.cells {W : World} {xb : Nat} {c0 c1 c2 c3 c4 cv : Value} (h : ABox W xb c0 c1 c2 c3 c4 cv) : W.cell? ⟨xb, 0, none⟩ = some c0 ∧ W.cell? ⟨xb, 1, none⟩ = some c1 ∧ W.cell? ⟨xb, 2, none⟩ = some c2 ∧ W.cell? ⟨xb, 3, none⟩ = some c3 ∧ W.cell? ⟨xb, 4, none⟩ = some c4 ∧ W.cell? ⟨xb, 5, none⟩ = some cv := by
  unfold ABox at h
  unfold World.cell?
  simp [h]
/-- In the middle of an input. -/
structure Mid (W w : World) (L : Keys) (ov : Value) (l : List ByteArray) (xb : Nat) (c0 c1 c2 c3 c4 cv : Value) : Prop where
  kp : Kp W w (fun _ => False)
  o : w.heap[W.heap.size]? = some (.cells #[ov] 42 (0, 0))
  e : w.heap[W.heap.size + 1]? = some (.cells #[.int .i64 0] 3 (0, 0))
  r : Kd.R PB.k34 34 w (W.heap.size + 2) (fun k => k < xb) ov (l.map (ans L))
  bx : ABox w xb c0 c1 c2 c3 c4 cv
  ge : W.heap.size + 2 ≤ xb
section
variable {W w w' : World} {L : Keys} {ov : Value} {l : List ByteArray} {xb : Nat} {c0 c1 c2 c3 c4 cv : Value}
theorem Mid.start (h : AskS W w L ov l) : Mid W (w.alloc (.cells #[.int .i64 0, .bool false, .int .i64 0, .bool false, .slice none 0 0, .slice none 0 0] 34)) L ov l w.heap.size (.int .i64 0) (.bool false) (.int .i64 0) (.bool false) (.slice none 0 0) (.slice none 0 0) := by
  have hb := below_alloc (Below.refl w.heap.size w) (.cells #[.int .i64 0, .bool false, .int .i64 0, .bool false, .slice none 0 0, .slice none 0 0] 34)
  have l1 := (Array.getElem?_eq_some_iff.1 h.e).1
  exact ⟨h.kp.alloc _, (hb.block _ (by omega)).trans h.o, (hb.block _ (by omega)).trans h.e, Kd.R_below (Kd.R_mono (Kd.R_bound h.r) (fun k hk => hk.2.2.1)) hb, blk_new _ _, by omega⟩
theorem Mid.below (h : Mid W w L ov l xb c0 c1 c2 c3 c4 cv) (hb : Below w.heap.size w w') : Mid W w' L ov l xb c0 c1 c2 c3 c4 cv := by
  have l1 := (Array.getElem?_eq_some_iff.1 h.e).1
  exact ⟨h.kp.then hb, (hb.block _ (by omega)).trans h.o, (hb.block _ l1).trans h.e, Kd.R_below h.r hb, h.bx.step (hb.block _ h.bx.lt), h.ge⟩
theorem Mid.drewN (h : Mid W w L ov l xb c0 c1 c2 c3 c4 cv) (q : Nat) : Mid W (w.drewN q) L ov l xb c0 c1 c2 c3 c4 cv := h.below (pw_below_drewN (Below.refl _ _) q)
theorem Mid.put (h : Mid W w L ov l xb c0 c1 c2 c3 c4 cv) {d0 d1 d2 d3 d4 dv : Value} (i : Nat) (v : Value) (hb : ABox (w.setCell ⟨xb, i, none⟩ v) xb d0 d1 d2 d3 d4 dv) : Mid W (w.setCell ⟨xb, i, none⟩ v) L ov l xb d0 d1 d2 d3 d4 dv := by
  have hg := h.ge
  exact ⟨h.kp.setNew _ _ (by show W.heap.size ≤ xb; omega), (Below.heap_setCell _ _ _ _ (by show _ ≠ xb; omega)).trans h.o, (Below.heap_setCell _ _ _ _ (by show _ ≠ xb; omega)).trans h.e, Kd.R_far h.r (fun k hk => by show k ≠ xb; omega) _, hb, h.ge⟩
theorem Mid.set0 (h : Mid W w L ov l xb c0 c1 c2 c3 c4 cv) (v : Value) : Mid W (w.setCell ⟨xb, 0, none⟩ v) L ov l xb v c1 c2 c3 c4 cv := h.put 0 v (h.bx.set0 v)
theorem Mid.set1 (h : Mid W w L ov l xb c0 c1 c2 c3 c4 cv) (v : Value) : Mid W (w.setCell ⟨xb, 1, none⟩ v) L ov l xb c0 v c2 c3 c4 cv := h.put 1 v (h.bx.set1 v)
theorem Mid.set2 (h : Mid W w L ov l xb c0 c1 c2 c3 c4 cv) (v : Value) : Mid W (w.setCell ⟨xb, 2, none⟩ v) L ov l xb c0 c1 v c3 c4 cv := h.put 2 v (h.bx.set2 v)
theorem Mid.set3 (h : Mid W w L ov l xb c0 c1 c2 c3 c4 cv) (v : Value) : Mid W (w.setCell ⟨xb, 3, none⟩ v) L ov l xb c0 c1 c2 v c4 cv := h.put 3 v (h.bx.set3 v)
theorem Mid.set4 (h : Mid W w L ov l xb c0 c1 c2 c3 c4 cv) (v : Value) : Mid W (w.setCell ⟨xb, 4, none⟩ v) L ov l xb c0 c1 c2 c3 v cv := h.put 4 v (h.bx.set4 v)
theorem Mid.arr (h : Mid W w L ov l xb c0 c1 c2 c3 c4 cv) {g : Nat} {s : DA} (a : Arr W g s) : Arr w g s := a.step (h.kp.old g a.lt id)
theorem Mid.cb (h : Mid W w L ov l xb c0 c1 c2 c3 c4 cv) {dv : Value} (k : Kp w w' (fun k => k = xb)) (hb : ABox w' xb c0 c1 c2 c3 c4 dv) : Mid W w' L ov l xb c0 c1 c2 c3 c4 dv := by
  have hg := h.ge
  have l1 := (Array.getElem?_eq_some_iff.1 h.e).1
  exact ⟨(h.kp.trans k).mono (fun i hi hx => by rcases hx with hx | hx; exact hx; omega), (k.old _ (by omega) (by omega)).trans h.o, (k.old _ l1 (by omega)).trans h.e, Kd.R_step h.r (fun i hi hl => k.old i hl (by omega)), hb, h.ge⟩
/-- A row that was made behind the box. -/
theorem row_cb {k : Kd PB.S39} {e base : Nat} {v : Value} {xs : List PB.S39} (h : k.R e w base (fun k => xb < k) v xs) (kk : Kp w w' (fun k => k = xb)) : k.R e w' base (fun k => xb < k) v xs :=
  Kd.R_step h (fun i hi hl => kk.old i hl (by omega))
theorem row_new {k : Kd PB.S39} {e b base : Nat} {v : Value} {xs : List PB.S39} (h : k.R e w b (fun _ => True) v xs) (h1 : xb < b) (h2 : base ≤ b) : k.R e w base (fun k => xb < k) v xs :=
  Kd.R_lower (Kd.R_mono (Kd.R_bound h) (fun i hi => Nat.lt_of_lt_of_le h1 hi.2.1)) h2
/-- The input is done. -/
theorem Mid.done (h : Mid W w L ov l xb c0 c1 c2 c3 c4 cv) {va : Value} {t : ByteArray} (hb : Below (W.heap.size + 2) w w') (hr : Kd.R PB.k34 34 w' (W.heap.size + 2) (fun _ => True) va (l.map (ans L) ++ [ans L t])) : AskS W (w'.setCell ⟨W.heap.size, 0, none⟩ va) L va (l ++ [t]) := by
  have hg := h.ge
  have hk : Kp W w' (fun _ => False) := ⟨Nat.le_trans h.kp.size hb.size, fun i hi hn => (hb.block i (by omega)).trans (h.kp.old i hi hn), h.kp.env.trans ⟨hb.os, hb.tape, hb.output⟩⟩
  refine ⟨hk.setNew _ _ (Nat.le_refl _), ?_, ?_, ?_⟩
  · rw [setCell_heap ((hb.block _ (by omega)).trans h.o)]; rfl
  · exact (Below.heap_setCell _ _ _ _ (by show _ ≠ W.heap.size; omega)).trans ((hb.block _ (by omega)).trans h.e)
  · rw [List.map_append]
    exact Kd.R_mono (Kd.R_far (p := ⟨W.heap.size, 0, none⟩) (Kd.R_mono (Kd.R_bound hr) (ok' := fun k => k ≠ W.heap.size) (fun k hk => by have := hk.2.1; omega)) (fun k hk => hk) _) (fun _ _ => trivial)
theorem Mid.out (h : Mid W w L ov l xb c0 c1 c2 c3 c4 cv) : w.cell? ⟨W.heap.size, 0, none⟩ = some ov ∧ w.frozen? ⟨W.heap.size, 0, none⟩ = false := by
  have := h.o
  constructor
  · unfold World.cell?; simp [this]
  · unfold World.frozen?; simp [this]
theorem Mid.out2 (h : Mid W w L ov l xb c0 c1 c2 c3 c4 cv) (hb : Below (W.heap.size + 2) w w') : w'.cell? ⟨W.heap.size, 0, none⟩ = some ov ∧ w'.frozen? ⟨W.heap.size, 0, none⟩ = false := by
  have := (hb.block W.heap.size (by omega)).trans h.o
  constructor
  · unfold World.cell?; simp [this]
  · unfold World.frozen?; simp [this]
theorem AskS.outs (h : AskS W w L ov l) : w.cell? ⟨W.heap.size, 0, none⟩ = some ov ∧ w.frozen? ⟨W.heap.size, 0, none⟩ = false ∧ w.cell? ⟨W.heap.size + 1, 0, none⟩ = some (.int .i64 0) ∧ w.frozen? ⟨W.heap.size + 1, 0, none⟩ = false := by
  have h1 := h.o
  have h2 := h.e
  unfold World.cell? World.frozen?
  refine ⟨?_, ?_, ?_, ?_⟩
  · simp [h1]
  · simp [h1]
  · simp [h2]
  · simp [h2]
theorem AskS.sl (h : AskS W w L ov l) : ∃ A c, ov = .slice A l.length c := by
  obtain ⟨A, c, e⟩ := Kd.R_slice h.r
  exact ⟨A, c, by rw [e, List.length_map]⟩
theorem kp_below {W w : World} (k : Kp W w (fun _ => False)) : Below W.heap.size W w := ⟨k.env.1, k.env.2.1, k.env.2.2, k.size, fun i hi => k.old i hi id⟩
theorem AskS.fin (h : AskS W w L ov l) : AskE W ((w.setCell ⟨W.heap.size, 0, none⟩ ov).setCell ⟨W.heap.size + 1, 0, none⟩ (.int .i64 0)) L l (.returned (.tuple #[ov, .int .i64 0])) := by
  refine ⟨ov, rfl, ?_, ((kp_below h.kp).setCell (Nat.le_refl _) _).setCell (Nat.le_succ _) _⟩
  have h1 := Kd.R_mono (Kd.R_bound h.r) (ok' := fun k => W.heap.size + 2 ≤ k) (fun k hk => hk.2.1)
  exact Kd.R_mono (Kd.R_lower (Kd.R_far (p := ⟨W.heap.size + 1, 0, none⟩) (Kd.R_far (p := ⟨W.heap.size, 0, none⟩) h1 (fun k hk => by show k ≠ W.heap.size; omega) _) (fun k hk => by show k ≠ W.heap.size + 1; omega) _) (by omega)) (fun _ _ => trivial)
theorem Mid.ne (h : Mid W w L ov l xb c0 c1 c2 c3 c4 cv) {g : Nat} {s : DA} (a : Arr W g s) : g ≠ xb := by have := a.lt; have := h.ge; omega
end
/-- 'hits' lists both. -/
theorem hits_run (H : List (Int × Int)) (hl : H.length ≤ 8796093022207) : ∀ (d j : Nat), j + d = H.length → ∀ k, d < k → PB.impl_hits.l0 k (H.map (·.1)) (H.map (·.2)) ((H.take j).map (fun h => (⟨h.1, h.2⟩ : PB.S39))) (H.length : Int) (j : Int) = some (H.map (fun h => (⟨h.1, h.2⟩ : PB.S39)))
  | 0, j, hj, k, hk => by
    obtain ⟨k, rfl⟩ : ∃ m, k = m + 1 := ⟨k - 1, by omega⟩
    simp only [PB.impl_hits.l0]
    rw [if_neg (by omega), List.take_of_length_le (by omega)]
  | d + 1, j, hj, k, hk => by
    obtain ⟨k, rfl⟩ : ∃ m, k = m + 1 := ⟨k - 1, by omega⟩
    have ih := hits_run H hl d (j + 1) (by omega) k (by omega)
    have hjl : j < H.length := by omega
    simp only [PB.impl_hits.l0]
    rw [if_pos (by omega), if_pos (by omega), if_pos (by simp; omega), if_pos (by simp; omega), if_pos (by simp; omega)]
    have e1 : wrap64 ((j : Int) + 1) = ((j + 1 : Nat) : Int) := by unfold wrap64; omega
    rw [e1, ← ih, List.take_succ_eq_append_getElem hjl, List.map_append]
    have e2 : ∀ f : Int × Int → Int, rd (H.map f) (j : Int) = f H[j] := fun f => by
      unfold rd
      rw [Int.toNat_natCast, List.getD_eq_getElem?_getD, List.getElem?_map, List.getElem?_eq_getElem hjl]; rfl
    rw [e2, e2]; rfl
theorem hits_any (w : World) (H : List (Int × Int)) (ids lens : List Int) (h1 : ids = H.map (·.1)) (h2 : lens = H.map (·.2)) (A1 A2 : Option Addr) (n1 n2 m : Nat) (hm : m ≤ 1000000000) (hl : H.length ≤ m) (l1 : ids.length ≤ n1) (g1 : Kd.C (Kd.int .i64) w A1 ids.length ids) (l2 : lens.length ≤ n2) (g2 : Kd.C (Kd.int .i64) w A2 lens.length lens) :
    Calls Try.prog 46 #[.slice A1 ids.length n1, .slice A2 lens.length n2] w fun e w' => ∃ v0_ : Value, e = .returned v0_ ∧ Kd.R PB.k39 39 w' w.heap.size (fun _ => True) v0_ (H.map (fun h => (⟨h.1, h.2⟩ : PB.S39))) ∧ Below w.heap.size w w' := by
  refine PB.impl_hits.calls (H.length + 1) A1 n1 _ A2 n2 _ _ w g1 l1 g2 l2 ?_
  subst h1
  subst h2
  unfold PB.impl_hits.f
  have := hits_run H (by omega) H.length 0 (by omega) (H.length + 1) (by omega)
  simpa using this
theorem cps_any (W : World) (g : Nat) (s : DA) (L : Keys) (t : ByteArray) (M_ : Arr W g s) (G_ : Good s 0 L) (C_ : Cln t) (hsz : t.size ≤ 1000000000) (hn : 0 < s.n) :
    Calls Try.prog 47 #[.slice (some ⟨g, 0, none⟩) s.n s.n, .string t] W fun e w' => ∃ (A1 A2 : Option Addr) (n1 n2 : Nat) (ids lens : List Int), e = .returned (.tuple #[.slice A1 ids.length n1, .slice A2 lens.length n2]) ∧ Aside0 (Calls Try.prog 46 #[.slice A1 ids.length n1, .slice A2 lens.length n2] w' fun e w2 => ∃ v0_ : Value, e = .returned v0_ ∧ Kd.R PB.k39 39 w2 w'.heap.size (fun _ => True) v0_ (hitsS L (bs t) (bs t).length) ∧ Below w'.heap.size w' w2) ∧ Below W.heap.size W w' := by
  refine (cps_calls W g s L t M_ G_ C_ hsz hn).mono ?_
  rintro e w' ⟨v1, v2, rfl, hr1, hr2, hB⟩
  obtain ⟨A1, n1, rfl, l1, g1⟩ := Kd.R_reads hr1
  obtain ⟨A2, n2, rfl, l2, g2⟩ := Kd.R_reads hr2
  exact ⟨A1, A2, n1, n2, _, _, rfl, ⟨hits_any w' (hitsTo L (bs t) (bs t).length) _ _ rfl rfl A1 A2 n1 n2 (bs t).length (by rw [bs_len]; exact hsz) (hits_len _ _ _) l1 g1 l2 g2⟩, hB⟩
set_option maxHeartbeats 16000000 in
set_option maxRecDepth 100000 in
theorem ask_calls (W : World) (g ci : Nat) (s : DA) (L : Keys) (ss : List ByteArray) (A : Option Addr) (M_ : Arr W g s) (G_ : Good s 0 L) (hn : 0 < s.n) (hC : ∀ t ∈ ss, Cln t ∧ t.size ≤ 1000000000) (hr : Kd.C Kd.string W A ss.length ss) (hfew : ss.length ≤ 1000000) :
    Calls Try.prog 29 #[.slice (some ⟨g, 0, none⟩) s.n s.n, .slice A ss.length ci] W fun e w' => AskE W w' L ss e := by
  have hmf : ∀ (fn : Fn) (first cap : Array Value) (w : World), (Instr.makeFunc fn first cap).run Try.prog w = .ok (.func fn first cap) w := fun _ _ _ _ => rfl
  have HA0 := Aside0.mk M_
  have G := Aside0.mk G_
  have HC := Aside0.mk hC
  have HR := Aside0.mk hr
  have big := M_.big
  clear M_ G_ hC hr
  go_enter_defers Try.func29, Try.ntmps29
  go_wp2_with fail
  go_loopg [12] ss.length (fun kq v12 w' => ∃ (j : Nat) (ov : Value), v12 = .int .i64 (j : Int) ∧ Aside0 (j + kq = ss.length) ∧ Aside0 (AskS W w' L ov (ss.take j)))
  case atStart => exact ⟨0, _, rfl, ⟨by omega⟩, ⟨asks_start W L⟩⟩
  case round =>
    obtain ⟨j, ov, rfl, HJ, HS⟩ := hrel
    have hj := HJ.out
    by_cases hjl : j < ss.length
    · have hjz : (j : Int) < (ss.length : Int) := by omega
      obtain ⟨ad, hA, hcell⟩ := str_cell HR.out j hjl
      subst hA
      have hcj : wr.cell? (ad.add j) = some (.string (ss.getD j ByteArray.empty)) := (HS.out.kp_cell hcell)
      have hm : ss.getD j ByteArray.empty ∈ ss := by rw [List.getD_eq_getElem?_getD, List.getElem?_eq_getElem hjl]; exact List.getElem_mem hjl
      obtain ⟨ht1, ht2⟩ := HC.out _ hm
      obtain ⟨t, ht⟩ : ∃ t, ss.getD j ByteArray.empty = t := ⟨_, rfl⟩
      rw [ht] at hcj ht1 ht2
      have HT1 := Aside0.mk ht1
      have HT := Aside0.mk ht
      clear ht1 ht hm hcell
      go_upto_region 6 with fail
      obtain ⟨w1, hw1, hm1⟩ : ∃ w1, w1 = _ ∧ Mid W w1 L ov (ss.take j) wr.heap.size _ _ _ _ _ _ := ⟨_, rfl, Mid.start HS.out⟩
      rw [← hw1]
      have hxb : W.heap.size + 2 ≤ wr.heap.size := hm1.ge
      obtain ⟨xb, hxbe⟩ : ∃ xb, wr.heap.size = xb := ⟨_, rfl⟩
      rw [hxbe] at hm1 hxb ⊢
      have HM := Aside0.mk hm1
      have hF := Aside0.mk (find_calls w1 g s L t (hm1.arr HA0.out) G.out HT1.out ht2 hn)
      have HXB : Aside0 (wr.heap.size = xb) := ⟨hxbe⟩
      clear hw1 hm1 hxbe
      go_upto_region 7 with (go_at_call 44; refine hF.out.mono ?_; rintro e_ w2 ⟨rfl, hB⟩; have hm2 := HM.out.below hB; have HM2 := Aside0.mk hm2; obtain ⟨k0, k1, k2, k3, k4, k5⟩ := hm2.bx.cells; have z0 := hm2.bx.froz 0; have z1 := hm2.bx.froz 1; clear hB hm2)
      obtain ⟨w3, hw3, hm3⟩ : ∃ w3, w3 = ((w2.setCell ⟨xb, 0, none⟩ (.int .i64 (fnd L t).1)).setCell ⟨xb, 1, none⟩ (.bool (fnd L t).2)) ∧ Mid W w3 L ov (ss.take j) xb _ _ _ _ _ _ := ⟨_, rfl, (HM2.out.set0 _).set1 _⟩
      rw [← hw3]
      clear hw3
      have HM3 := Aside0.mk hm3
      have hF := Aside0.mk (prefix_calls w3 g s L t (hm3.arr HA0.out) G.out HT1.out ht2 hn)
      clear HM2 hm3 k0 k1 k2 k3 k4 k5 z0 z1 HM
      go_upto_region 8 with (go_at_call 45; refine hF.out.mono ?_; rintro e_ w4 ⟨rfl, hB⟩; have hm4 := HM3.out.below hB; have HM4 := Aside0.mk hm4; obtain ⟨k0, k1, k2, k3, k4, k5⟩ := hm4.bx.cells; have z2 := hm4.bx.froz 2; have z3 := hm4.bx.froz 3; clear hB hm4)
      obtain ⟨w5, hw5, hm5⟩ : ∃ w5, w5 = ((w4.setCell ⟨xb, 2, none⟩ (.int .i64 (lng L t).1)).setCell ⟨xb, 3, none⟩ (.bool (lng L t).2)) ∧ Mid W w5 L ov (ss.take j) xb _ _ _ _ _ _ := ⟨_, rfl, (HM4.out.set2 _).set3 _⟩
      rw [← hw5]
      clear hw5
      have HM5 := Aside0.mk hm5
      have hF := Aside0.mk (cps_any w5 g s L t (hm5.arr HA0.out) G.out HT1.out ht2 hn)
      clear HM4 hm5 k0 k1 k2 k3 k4 k5 z2 z3 HM3
      go_upto_region 9 with (first | (go_at_call 47; refine hF.out.mono ?_; rintro e_ w6 ⟨A1, A2, n1, n2, ids, lens, rfl, HHit, hB⟩; have hm6 := HM5.out.below hB; have HM6 := Aside0.mk hm6; clear hB hm6) | (go_at_call 46; refine HHit.out.mono ?_; rintro e_ w7 ⟨hv, rfl, hr, hB⟩; have hm7 := HM6.out.below hB; have HM7 := Aside0.mk hm7; obtain ⟨k0, k1, k2, k3, k4, k5⟩ := hm7.bx.cells; have z4 := hm7.bx.froz 4; obtain ⟨Ah, nh, rfl⟩ := Kd.R_slice hr; have HRH := Aside0.mk hr; have hsz6 := hm7.bx.lt; have HSZ := Aside0.mk (HM6.out.bx.lt); clear hr hB hm7 hsz6))
      have hrh : Kd.R PB.k39 39 w7 (W.heap.size + 2) (fun k => xb < k) (Value.slice Ah (hitsS L (bs t) (bs t).length).length nh) (hitsS L (bs t) (bs t).length) := row_new HRH.out HSZ.out (by have := HSZ.out; omega)
      obtain ⟨w8, hw8, hm8, hr8⟩ : ∃ w8, w8 = w7.setCell ⟨xb, 4, none⟩ (Value.slice Ah (hitsS L (bs t) (bs t).length).length nh) ∧ Mid W w8 L ov (ss.take j) xb _ _ _ _ _ _ ∧ Kd.R PB.k39 39 w8 (W.heap.size + 2) (fun k => xb < k) (Value.slice Ah (hitsS L (bs t) (bs t).length).length nh) (hitsS L (bs t) (bs t).length) := ⟨_, rfl, HM7.out.set4 _, Kd.R_far (p := ⟨xb, 4, none⟩) hrh (fun k hk => by show k ≠ xb; omega) _⟩
      rw [← hw8]
      clear hw8
      have HM8 := Aside0.mk hm8
      have HR8 := Aside0.mk hr8
      have hl8 := hm8.bx.lt
      have HL8 := Aside0.mk hl8
      have hF := Aside0.mk (cb_calls w8 g xb s L t _ _ _ _ _ (hm8.arr HA0.out) G.out HT1.out ht2 hn hm8.bx (hm8.ne HA0.out))
      clear HM5 HM6 HM7 HRH hm8 hr8 hrh hl8 k0 k1 k2 k3 k4 k5 z4 HHit
      go_upto_region 10 with (go_at_call 48; refine hF.out.mono ?_; rintro e_ w9 ⟨rfl, hC9⟩; have HC9 := Aside0.mk hC9; clear hC9)
      obtain ⟨cv, g1, g2, g3⟩ := HC9.out
      have hm9 := HM8.out.cb g3 g1
      have HM9 := Aside0.mk hm9
      have HR9 := Aside0.mk (row_cb HR8.out g3)
      have HV9 := Aside0.mk (row_new g2 HL8.out (show W.heap.size + 2 ≤ w8.heap.size by have := HL8.out; omega))
      obtain ⟨k0, k1, k2, k3, k4, k5⟩ := hm9.bx.cells
      have ko := hm9.out.1
      have zo := hm9.out.2
      have hlt9 := hm9.bx.lt
      have hsz9 : W.heap.size + 2 ≤ w9.heap.size := by omega
      obtain ⟨Ac, nc, rfl⟩ := Kd.R_slice HV9.out
      have hOK : ∀ k, (xb < k) → True ∧ some k ≠ ov.ownBlock := fun k hk => ⟨trivial, fun e => by have := hm9.r.1 k e.symm; omega⟩
      have HOK := Aside0.mk hOK
      have hl34 : ((ss.take j).map (ans L)).length ≤ 1000000 := by simp; omega
      clear HC9 g1 g2 g3 hm9 HM8 HR8 HL8 HSZ hlt9 hOK
      cases gk with
      | zero => omega
      | succ kz =>
      go_wp2_with (first | ((with_reducible refine gate_builtin (b := .append) (xs := #[.tmp 47, .tmp 49]) rfl ?_); at_builtin; refine Kd.R_append PB.k34 (w0 := w9) (W.heap.size + 2) rfl (.tmp 47) (.tmp 49) 42 34 (.agg #[(.int .i64 0), (.bool false), (.int .i64 0), (.bool false), (.slice none 0 0), (.slice none 0 0)]) 80 rfl Try.underlying42 PB.info34 rfl (by decide) (by omega) _ _ (ans L t) [.int .i64 (ans L t).f0.f0, .bool (ans L t).f0.f1, .int .i64 (ans L t).f1.f0, .bool (ans L t).f1.f1, _, _] (fun _ => True) (fun k => xb < k) rfl rfl (PB.k34_mkM _ _ _ _ HR9.out HV9.out) HOK.out (fun _ _ => trivial) (Kd.R_mono HM9.out.r (fun _ _ => trivial)) (Below.refl _ _) hsz9 (by omega) ?_; intro va wa ho hb hg hat; obtain ⟨k9, z9⟩ := HM9.out.out2 hb; have HD := Aside0.mk (HM9.out.done hb ho); obtain ⟨Aa, na, rfl⟩ := Kd.R_slice ho; clear ho hb hg hat ko zo) | fail)
      go_roundg kz
      case measure => omega
      case rel => exact ⟨j + 1, _, congrArg (Value.int .i64) (by omega), ⟨by omega⟩, ⟨by rw [List.take_succ_eq_append_getElem hjl, show ss[j] = t by rw [← HT.out, List.getD_eq_getElem?_getD, List.getElem?_eq_getElem hjl]; rfl]; have h9 := HD.out; simp only [List.length_append, List.length_map, List.length_take, List.length_cons, List.length_nil, Nat.zero_add] at h9; exact h9⟩⟩
    · have hjz : ¬ (j : Int) < (ss.length : Int) := by omega
      have hjj : j = ss.length := by omega
      subst hjj
      have hs := HS.out
      rw [List.take_length] at hs
      obtain ⟨Ao, no, rfl⟩ := hs.sl
      have HSF := Aside0.mk hs
      obtain ⟨q1, q2, q3, q4⟩ := hs.outs
      clear hs HS
      go_wp2_with fail
      refine leaves_cons (f := 43) (args := #[.pointer (some ⟨W.heap.size, 0, none⟩), .pointer (some ⟨W.heap.size + 1, 0, none⟩)]) (by simp) (by simp [go_sem]) ?_
      refine (ask1_idle _ _ _).mono ?_
      rintro e u' w'' ⟨rfl, rfl, rfl⟩
      simp [Leaves, settle, results, Try.results29, go_sem, q1, q2, q3, q4]
      exact HSF.out.fin
end Go.Proofs.Ytaejkbjepbifcaa.Da
namespace Go.Proofs.Ytaejkbjepbifcaa.Da
open Go.RowKit Go.Maps Go.ChangeShapes Go.Proofs.YtaejkbjepbifcaaW.PrintWords
set_option linter.unusedVariables false
set_option linter.unusedSimpArgs false
/-- What BuildWithIDs hands back. -/
def BldE (W W' : World) (S : Nat → Prop) (L : Keys) (e : Ending) : Prop := ∃ g s, e = .returned (.tuple #[.slice (some ⟨g, 0, none⟩) s.n s.n, .nilIface]) ∧ Arr W' g s ∧ Good s 0 L ∧ 0 < s.n ∧ W.heap.size ≤ g ∧ Kp W W' S
theorem bld_end {W w w' : World} {x g g' : Nat} {s' : DA} {L : Keys} {S : Nat → Prop} (hk : Kp W w S) (hx : W.heap.size ≤ x) (hg : W.heap.size ≤ g) (h : BldP w w' x g L g' s') : BldE W w' S L (.returned (.tuple #[.slice (some ⟨g', 0, none⟩) s'.n s'.n, .nilIface])) := by
  obtain ⟨h1, h2, h3, h4, h5⟩ := h
  have := hk.size
  exact ⟨g', s', rfl, h1, h2, h3, by omega, (hk.trans h5).mono (fun i hi h => by rcases h with h | h | h; exact h; omega; omega)⟩
set_option maxHeartbeats 16000000 in
set_option maxRecDepth 100000 in
theorem build_sorted (W : World) (kb ko ib io Nc Dc k : Nat) (ss : List ByteArray) (ds : List Int) (HSRC : Src W kb ko ss ib io ds) (hr : Kd.C Kd.string W (some ⟨kb, ko, none⟩) ss.length ss) (hc : ss.length ≤ Nc) (hs : PB.slices_IsSorted_string_string.f k ss = some true) (hne : ss ≠ []) (hok : Okk (keysAll ss ds)) (has : Asc (keysAll ss ds)) (ht : tot (keysAll ss ds) ≤ 32000) :
    Calls Try.prog 26 #[.slice (some ⟨kb, ko, none⟩) ss.length Nc, .slice (some ⟨ib, io, none⟩) ds.length Dc] W fun e w' => BldE W w' (fun _ => False) (keysAll ss ds) e := by
  have HS0 := Aside0.mk HSRC
  have HR := Aside0.mk hr
  have HIS := Aside0.mk hs
  have HNE := Aside0.mk hne
  have HOK := Aside0.mk hok
  have HAS := Aside0.mk has
  have HT := Aside0.mk ht
  have hlen := HSRC.len
  have hpos : 0 < ss.length := List.length_pos_iff.2 hne
  have hl0 : ((ss.length : Int) == 0) = false := by rw [beq_eq_false_iff_ne]; omega
  have hl1 : ((ss.length : Int) != (ss.length : Int)) = false := by simp
  have hfew := HSRC.few
  have HLE := Aside0.mk hlen
  rw [hlen]
  clear HSRC hr hs hne hok has ht hlen
  go_enter Try.func26, Try.ntmps26
  refine wp_seq_k fun K hK_ => ?_
  have hK := Aside0.mk hK_
  clear hK_
  go_wp2_with fail
  refine hK.out _ _ ?_
  clear hK K
  refine wp_seq_k fun K hK_ => ?_
  have hK := Aside0.mk hK_
  clear hK_
  go_wp2_with fail
  refine hK.out _ _ ?_
  clear hK K
  have hz1 : (W.alloc (.cells #[] 100)).heap.size = W.heap.size + 1 := Own.size_alloc _ _
  obtain ⟨w1, hw1, hbx, hk1⟩ : ∃ w1, w1 = (W.alloc (.cells #[] 100)).alloc (.cells #[.slice (some ⟨W.heap.size, 0, none⟩) 0 0] 62) ∧ w1.heap[W.heap.size + 1]? = some (.cells #[.slice (some ⟨W.heap.size, 0, none⟩) 0 0] 62 (0, 0)) ∧ Kp W w1 (fun _ => False) := ⟨_, rfl, by rw [← hz1]; exact blk_new _ _, ((Kp.self W _).alloc _).alloc _⟩
  rw [← hw1]
  obtain ⟨x, hx⟩ : ∃ x, W.heap.size + 1 = x := ⟨_, rfl⟩
  rw [hx] at hbx ⊢
  have HX := Aside0.mk hx
  have HI := Aside0.mk (init_calls w1 x _ hbx)
  have HK1 := Aside0.mk hk1
  clear hw1 hbx hk1 hz1 hx
  refine wp_seq_k fun K hK_ => ?_
  have hK := Aside0.mk hK_
  clear hK_
  go_wp2_with (first | (go_at_call 37; refine HI.out.mono ?_; rintro e_ w2 ⟨rfl, g, hg, hM, hK⟩; have HM := Aside0.mk hM; have HG := Aside0.mk hg; have HK2 : Aside0 (Kp W w2 (fun _ => False)) := ⟨(HK1.out.trans hK).mono (fun i hi h => by have := HX.out; rcases h with h | h; exact h; omega)⟩; have HIS2 := Aside0.mk (PB.slices_IsSorted_string_string.calls k _ Nc ss true w2 (Kd.C_below HR.out (kp_below HK2.out)) hc HIS.out); clear hM hg hK) | (go_at_call 39; refine HIS2.out.mono ?_; rintro e_ w3 ⟨rfl, ⟨q3, rfl⟩⟩))
  refine hK.out _ _ ?_
  clear hK K
  refine wp_seq_k fun K hK_ => ?_
  have hK := Aside0.mk hK_
  clear hK_
  go_wp2_with fail
  refine hK.out _ _ ?_
  clear hK K
  refine wp_seq_k fun K hK_ => ?_
  have hK := Aside0.mk hK_
  clear hK_
  go_wp2_with fail
  refine hK.out _ _ ?_
  clear hK K
  refine wp_seq_k fun K hK_ => ?_
  have hK := Aside0.mk hK_
  clear hK_
  go_wp2_with (first | (go_at_call 37; refine HI.out.mono ?_; rintro e_ w2 ⟨rfl, g, hg, hM, hK⟩; have HM := Aside0.mk hM; have HG := Aside0.mk hg; have HK2 : Aside0 (Kp W w2 (fun _ => False)) := ⟨(HK1.out.trans hK).mono (fun i hi h => by have := HX.out; rcases h with h | h; exact h; omega)⟩; have HIS2 := Aside0.mk (PB.slices_IsSorted_string_string.calls k _ Nc ss true w2 (Kd.C_below HR.out (kp_below HK2.out)) hc HIS.out); clear hM hg hK) | (go_at_call 39; refine HIS2.out.mono ?_; rintro e_ w3 ⟨rfl, ⟨q3, rfl⟩⟩))
  refine hK.out _ _ ?_
  clear hK K
  have hm3 := HM.out.drewN q3
  have hk3 := HK2.out.drewN q3
  have hs3 := HS0.out.step hk3 id id
  have hg3 : W.heap.size ≤ g := by have := HK1.out.size; have := HG.out; omega
  have hap : kb ≠ x ∧ kb ≠ g ∧ ib ≠ x ∧ ib ≠ g := by
    have := HS0.out.kl
    have := HS0.out.il
    have := HX.out
    omega
  have HM3 := Aside0.mk hm3
  have HK3 := Aside0.mk hk3
  have HS3 := Aside0.mk hs3
  have HG3 := Aside0.mk hg3
  have HAP := Aside0.mk hap
  clear hm3 hk3 hs3 hg3 hap HM HK2 HIS2 HI HK1
  refine bld_tail _ x g kb ko ib io Nc Dc ss ds HM3 HS3 HNE HOK HAS HT HAP ⟨?_⟩
  intro n12 n13 n62 n63 n64 n65 n66 n67 n68 n69 n70 n71 n72 n73 n74 n75 n76 n77 n78 n79 n80 g' s' w' HB
  (try simp only [Exit.then, Exit.jump])
  exact bodyPost_ret (v := .tuple #[.slice (some ⟨g', 0, none⟩) s'.n s'.n, .nilIface]) (by simp [results, Try.results26, go_sem]) rfl (bld_end HK3.out (by have := HX.out; omega) HG3.out HB.out)
end Go.Proofs.Ytaejkbjepbifcaa.Da
namespace Go.Proofs.Ytaejkbjepbifcaa.Da
open Go.RowKit Go.Proofs.YtaejkbjepbifcaaW.PrintWords
set_option linter.unusedVariables false
set_option linter.unusedSimpArgs false
/-- A row of one-cell elements of the call's own, that is not empty, stands at the head of a block. -/
theorem own_head {α : Type} {d : Kd α} {e : Nat} {w : World} {base : Nat} {ok : Nat → Prop} {v : Value} {xs : List α} (h : Kd.R d e w base ok v xs) (hne : xs ≠ []) : ∃ g c, v = .slice (some ⟨g, 0, none⟩) xs.length c ∧ base ≤ g ∧ g < w.heap.size ∧ xs.length ≤ c ∧ Kd.C d w (some ⟨g, 0, none⟩) xs.length xs := by
  obtain ⟨inner, ho⟩ := Kd.R_own h
  have hp : 0 < xs.length := List.length_pos_iff.2 hne
  rcases ho.2 with ⟨_, h0⟩ | ⟨g, cap, cur, rfl, h2, h3, h4, h5, h6, h7⟩
  · omega
  · obtain ⟨A, c, e1, l1, g1⟩ := Kd.R_reads h
    injection e1 with e1 e2 e3
    subst e1
    subst e3
    exact ⟨g, _, rfl, h2, (Array.getElem?_eq_some_iff.1 h3).1, l1, g1⟩
theorem add_at0 (g j : Nat) : (⟨g, 0, none⟩ : Addr).add j = ⟨g, 0 + j, none⟩ := by unfold Addr.add; split <;> simp_all
theorem int_cell {W : World} {A : Option Addr} {ds : List Int} (h : Kd.C (Kd.int .i64) W A ds.length ds) (j : Nat) (hj : j < ds.length) : ∃ ad, A = some ad ∧ W.cell? (ad.add j) = some (.int .i64 (ds.getD j 0)) := by
  obtain ⟨ad, c, e, _, hK, hc0⟩ := Kd.C_get h 0 (j : Int) (by omega) (by omega)
  have hK : c = [.int .i64 _] := hK
  subst hK
  have := hc0 0 _ rfl
  rw [Int.toNat_natCast] at this
  have e1 : (Kd.int .i64).sz = 1 := rfl
  rw [e1, Nat.mul_one, Nat.add_zero] at this
  exact ⟨ad, e, this⟩
/-- What is asked of keys and identifiers. -/
structure KeysOk (ss : List ByteArray) (ds : List Int) : Prop where
  ne : ss ≠ []
  len : ds.length = ss.length
  few : ss.length ≤ 1000000
  sz : ∀ t ∈ ss, t.size ≤ 1000000000
  dsb : ∀ d ∈ ds, 0 ≤ d ∧ d ≤ 2147483647
  ok : Okk (keysAll ss ds)
  asc : Asc (keysAll ss ds)
  tot : tot (keysAll ss ds) ≤ 32000
theorem src_of {W : World} {kb ib : Nat} {ss : List ByteArray} {ds : List Int} (k : KeysOk ss ds) (h1 : Kd.C Kd.string W (some ⟨kb, 0, none⟩) ss.length ss) (h2 : Kd.C (Kd.int .i64) W (some ⟨ib, 0, none⟩) ds.length ds) (hk : kb < W.heap.size) (hi : ib < W.heap.size) : Src W kb 0 ss ib 0 ds :=
  ⟨fun j hj => by
    obtain ⟨ad, e, h⟩ := str_cell h1 j hj
    cases e
    rw [add_at0] at h
    exact h, fun j hj => by
    obtain ⟨ad, e, h⟩ := int_cell h2 j hj
    cases e
    rw [add_at0] at h
    exact h, hk, hi, k.len, k.few, k.sz, k.dsb⟩
theorem clone_strs (ss : List ByteArray) (h : ss.length ≤ 1000000) : PB.slices_Clone_string_string.f ss = some ss := by
  unfold PB.slices_Clone_string_string.f
  simp only [Option.bind_some, List.nil_append, List.length_nil, Nat.zero_add]
  rw [if_pos (by omega)]
theorem clone_ints (ds : List Int) (h : ds.length ≤ 1000000) : PB.slices_Clone_int_int.f ds = some ds := by
  unfold PB.slices_Clone_int_int.f
  simp only [Option.bind_some, List.nil_append, List.length_nil, Nat.zero_add]
  rw [if_pos (by omega)]
/-- What is asked of texts. -/
def InsOk (l : List ByteArray) : Prop := l.length ≤ 1000000 ∧ ∀ t ∈ l, Cln t ∧ t.size ≤ 1000000000
set_option maxHeartbeats 16000000 in
set_option maxRecDepth 100000 in
theorem trie_calls (W : World) (A0 A1 A2 : Option Addr) (c0 c1 c2 k : Nat) (ss ts : List ByteArray) (ds : List Int) (hr0 : Kd.C Kd.string W A0 ss.length ss) (hc0 : ss.length ≤ c0) (hr1 : Kd.C (Kd.int .i64) W A1 ds.length ds) (hc1 : ds.length ≤ c1) (hr2 : Kd.C Kd.string W A2 ts.length ts) (hs : PB.slices_IsSorted_string_string.f k ss = some true) (K : KeysOk ss ds) (hI : InsOk ts) :
    Calls Try.prog 17 #[.slice A0 ss.length c0, .slice A1 ds.length c1, .slice A2 ts.length c2] W fun e w' => AskE W w' (keysAll ss ds) ts e := by
  have HR2 := Aside0.mk hr2
  have HR1 := Aside0.mk hr1
  have HC1 := Aside0.mk hc1
  have HK := Aside0.mk K
  have HI := Aside0.mk hI
  have HS := Aside0.mk hs
  have h1 := Aside0.mk (PB.slices_Clone_string_string.calls A0 c0 ss ss W hr0 hc0 (clone_strs ss K.few))
  clear hr0 hr1 hr2 hc1 hs K hI
  go_enter Try.func17, Try.ntmps17
  go_wp2_with (first | (go_at_call 27; refine h1.out.mono ?_; rintro e_ w1 ⟨v1, rfl, hv, hB⟩; have HB1 := Aside0.mk hB; have HV1 := Aside0.mk hv; have h2 := Aside0.mk (PB.slices_Clone_int_int.calls A1 c1 ds ds w1 (Kd.C_below HR1.out hB) HC1.out (clone_ints ds (by rw [HK.out.len]; exact HK.out.few))); obtain ⟨kb, kc, rfl, b1, b2, b3, b4⟩ := own_head hv HK.out.ne; have HKB := Aside0.mk b4; clear hB hv b4) | (go_at_call 28; refine h2.out.mono ?_; rintro e_ w2 ⟨v2, rfl, hv, hB⟩; have HB2 := Aside0.mk hB; have HV2 := Aside0.mk hv; obtain ⟨ib, ic, rfl, d1, d2, d3, d4⟩ := own_head hv (fun e => HK.out.ne (List.length_eq_zero_iff.1 (by rw [← HK.out.len, e]; rfl))); have HIB := Aside0.mk d4; have hkb2 := Kd.C_below HKB.out hB; have h3 := Aside0.mk (build_sorted w2 kb 0 ib 0 kc ic k ss ds (src_of HK.out hkb2 d4 (by have := hB.size; omega) d2) hkb2 b3 HS.out HK.out.ne HK.out.ok HK.out.asc HK.out.tot); clear hB hv d4 hkb2) | (go_at_call 26; refine h3.out.mono ?_; rintro e_ w3 ⟨g, s, rfl, hA, hG, hn, hg, hK⟩; have HA := Aside0.mk hA; have HG := Aside0.mk hG; have HB3 := Aside0.mk (kp_below hK); have h4 := Aside0.mk (ask_calls w3 g c2 s (keysAll ss ds) ts A2 hA hG hn HI.out.2 (Kd.C_below (Kd.C_below (Kd.C_below HR2.out HB1.out) HB2.out) HB3.out) HI.out.1); clear hA hG hK) | (go_at_call 29; refine h4.out.mono ?_; rintro e_ w4 ⟨ov, rfl, hR, hB⟩; have HR4 := Aside0.mk hR; have HB4 := Aside0.mk hB; clear hR hB))
  have hz1 := HB1.out.size
  have hz2 := HB2.out.size
  have hz3 := HB3.out.size
  refine bodyPost_ret (v := .tuple #[ov, .int .i64 0]) (by simp [results, Try.results17, go_sem]) rfl ⟨ov, rfl, Kd.R_lower HR4.out (by omega), below_step (below_step (below_step HB1.out HB2.out) HB3.out) HB4.out⟩
end Go.Proofs.Ytaejkbjepbifcaa.Da
namespace Go.Proofs.Ytaejkbjepbifcaa.Da
open Go.RowKit Go.Proofs.YtaejkbjepbifcaaW.PrintWords Go.Proofs.Ytaejkbjepbifcaa.Plain
set_option linter.unusedVariables false
set_option linter.unusedSimpArgs false
/-- Some answer, and what follows when it is yes. -/
def Tru (g : Nat → Option Bool) (P : Prop) : Prop := ∃ r, Ev g r ∧ (r = true → P)
theorem wrap_up (i : Nat) (h : i ≤ 4611686018427387904) : wrap64 ((i : Int) + 1) = ((i + 1 : Nat) : Int) := by unfold wrap64; omega
theorem wrap_dn (i : Nat) (h0 : 1 ≤ i) (h : i ≤ 4611686018427387904) : wrap64 ((i : Int) - 1) = ((i - 1 : Nat) : Int) := by unfold wrap64; omega
theorem rdOf_nat {α : Type} (d : α) (l : List α) (i : Nat) : rdOf d l (i : Int) = l.getD i d := by unfold rdOf; rw [Int.toNat_natCast]
/-- Sizes that fit. -/
def Fits (l : List ByteArray) : Prop := l.length ≤ 2147483647 ∧ ∀ t ∈ l, t.size ≤ 2147483647
theorem getD_mem {α : Type} {l : List α} {i : Nat} (d : α) (h : i < l.length) : l.getD i d ∈ l := by
  rw [List.getD_eq_getElem?_getD, List.getElem?_eq_getElem h]; exact List.getElem_mem h
theorem all_getD {α : Type} {l : List α} (d : α) {P : α → Prop} (h : ∀ j, j < l.length → P (l.getD j d)) : ∀ x ∈ l, P x := by
  intro x hx
  obtain ⟨j, hj, rfl⟩ := List.getElem_of_mem hx
  have := h j hj
  rw [List.getD_eq_getElem?_getD, List.getElem?_eq_getElem hj] at this
  exact this
theorem zf_key (l : List ByteArray) (hl : l.length ≤ 4611686018427387904) : ∀ d i, i + d = l.length → ∃ r, Ev (fun k => PB.laws_zzFits3.l0 k l (l.length : Int) (i : Int)) r ∧ (r = true → ∀ j, i ≤ j → j < l.length → (l.getD j ByteArray.empty).size ≤ 2147483647)
  | 0, i, h => ⟨true, Ev.step (fun k => by rw [PB.laws_zzFits3.l0]) (evn (by omega) (Ev.now true)), fun _ j h1 h2 => by omega⟩
  | d + 1, i, h => by
    obtain ⟨r, hr, hp⟩ := zf_key l hl d (i + 1) (by omega)
    by_cases hs : ((l.getD i ByteArray.empty).size : Int) > 2147483647
    · exact ⟨false, Ev.step (fun k => by rw [PB.laws_zzFits3.l0]) (evp (by omega) (evp (by omega) (evp (by omega) (evp (by rw [rdOf_nat]; exact hs) (Ev.now false))))), fun h => by cases h⟩
    · refine ⟨r, Ev.step (fun k => by rw [PB.laws_zzFits3.l0]) (evp (by omega) (evp (by omega) (evp (by omega) (evn (by rw [rdOf_nat]; exact hs) (by rw [wrap_up i (by omega)]; exact hr))))), fun h j h1 h2 => ?_⟩
      by_cases e : j = i
      · subst e; omega
      · exact hp h j (by omega) h2
theorem zf_ev (l : List ByteArray) (hl : l.length ≤ 4611686018427387904) : Tru (fun k => PB.laws_zzFits3.f k l) (Fits l) := by
  unfold PB.laws_zzFits3.f
  by_cases h : (l.length : Int) > 2147483647
  · exact ⟨false, evp h (Ev.now false), fun h => by cases h⟩
  · obtain ⟨r, hr, hp⟩ := zf_key l hl l.length 0 (by omega)
    exact ⟨r, evn h hr, fun e => ⟨by omega, all_getD _ (fun j hj => hp e j (Nat.zero_le _) hj)⟩⟩
/-- The texts' bytes, each with one more. -/
def wt (l : List ByteArray) : Nat := (l.map (fun t => t.size + 1)).sum
theorem wt_drop {l : List ByteArray} {j : Nat} (h : j < l.length) : wt (l.drop j) = (l.getD j ByteArray.empty).size + 1 + wt (l.drop (j + 1)) := by
  rw [List.drop_eq_getElem_cons h, List.getD_eq_getElem?_getD, List.getElem?_eq_getElem h]
  unfold wt
  rw [List.map_cons, List.sum_cons]
  rfl
theorem wt_le {l : List ByteArray} (h : Fits l) (j : Nat) : wt (l.drop j) ≤ 2147483648 * 2147483647 := by
  have key : ∀ m : List ByteArray, (∀ t ∈ m, t.size ≤ 2147483647) → wt m ≤ 2147483648 * m.length := by
    intro m
    induction m with
    | nil => intro _; simp [wt]
    | cons t m ih =>
      intro hm
      have h1 := hm t List.mem_cons_self
      have h2 := ih (fun x hx => hm x (List.mem_cons_of_mem _ hx))
      simp only [wt, List.map_cons, List.sum_cons, List.length_cons] at h2 ⊢
      omega
  have h1 := key (l.drop j) (fun t ht => h.2 t (List.mem_of_mem_drop ht))
  have h2 := h.1
  rw [List.length_drop] at h1
  have : 2147483648 * (l.length - j) ≤ 2147483648 * 2147483647 := Nat.mul_le_mul_left _ (by omega)
  omega
theorem few_in (ls : List (List ByteArray)) (i : Nat) (hi : i < ls.length) (hf : Fits (ls.getD i [])) (r : Bool) (hls : ls.length ≤ 4) : ∀ d j n, j + d = (ls.getD i []).length → n + wt ((ls.getD i []).drop j) ≤ 9223372036854775807 →
    Ev (fun k => PB.laws_few.l0 k ls ((n + wt ((ls.getD i []).drop j) : Nat) : Int) (ls.length : Int) ((i + 1 : Nat) : Int)) r → Ev (fun k => PB.laws_few.l1 k ls (n : Int) (i : Int) (ls.length : Int) (i : Int) ((PB.rd_L1 ls (i : Int)).length : Int) (j : Int)) r
  | 0, j, n, h, hn, hr => by
    have e : PB.rd_L1 ls (i : Int) = ls.getD i [] := by unfold PB.rd_L1; rw [Int.toNat_natCast]
    refine Ev.step (fun k => by rw [PB.laws_few.l1]) (evn (by rw [e]; omega) ?_)
    rw [wrap_up i (by omega)]
    rw [List.drop_eq_nil_of_le (by omega)] at hr
    exact hr
  | d + 1, j, n, h, hn, hr => by
    have e : PB.rd_L1 ls (i : Int) = ls.getD i [] := by unfold PB.rd_L1; rw [Int.toNat_natCast]
    have hj : j < (ls.getD i []).length := by omega
    have hsz := hf.2 _ (getD_mem ByteArray.empty hj)
    have hl := hf.1
    have hw := wt_drop hj
    have ih := few_in ls i hi hf r hls d (j + 1) (n + (((ls.getD i []).getD j ByteArray.empty).size + 1)) (by omega) (by omega) (by rw [hw] at hr; rw [show n + (((ls.getD i []).getD j ByteArray.empty).size + 1) + wt ((ls.getD i []).drop (j + 1)) = n + (((ls.getD i []).getD j ByteArray.empty).size + 1 + wt ((ls.getD i []).drop (j + 1))) by omega]; exact hr)
    refine Ev.step (fun k => by rw [PB.laws_few.l1]) (evp (by rw [e]; omega) (evp (by omega) (evp (by omega) (evp (by omega) (evp (by rw [e]; omega) ?_)))))
    have e1 : wrap64 ((n : Int) + wrap64 (((rdOf ByteArray.empty (PB.rd_L1 ls (i : Int)) (j : Int)).size : Int) + 1)) = ((n + (((ls.getD i []).getD j ByteArray.empty).size + 1) : Nat) : Int) := by
      rw [e, rdOf_nat, wrap_ok (i := (((ls.getD i []).getD j ByteArray.empty).size : Int) + 1) (by omega) (by omega), wrap_ok (by omega) (by omega)]
      omega
    rw [e1, wrap_up j (by omega)]
    exact ih
def wts (ls : List (List ByteArray)) : Nat := (ls.map wt).sum
theorem few_key (ls : List (List ByteArray)) (hf : ∀ l ∈ ls, Fits l) (hls : ls.length ≤ 4) : ∀ d i n, i + d = ls.length → n + wts (ls.drop i) ≤ 9223372036854775807 →
    Ev (fun k => PB.laws_few.l0 k ls (n : Int) (ls.length : Int) (i : Int)) (decide (n + wts (ls.drop i) ≤ 4000))
  | 0, i, n, h, hn => by
    rw [List.drop_eq_nil_of_le (by omega)]
    refine Ev.step (fun k => by rw [PB.laws_few.l0]) (evn (by omega) ?_)
    have : decide ((n : Int) ≤ 4000) = decide (n + wts [] ≤ 4000) := by
      simp only [wts, List.map_nil, List.sum_nil, Nat.add_zero]
      apply decide_eq_decide.2
      omega
    rw [this]
    exact Ev.now _
  | d + 1, i, n, h, hn => by
    have hi : i < ls.length := by omega
    have e : wts (ls.drop i) = wt (ls.getD i []) + wts (ls.drop (i + 1)) := by
      rw [List.drop_eq_getElem_cons hi, List.getD_eq_getElem?_getD, List.getElem?_eq_getElem hi]
      unfold wts
      rw [List.map_cons, List.sum_cons]
      rfl
    have ih := few_key ls hf hls d (i + 1) (n + wt (ls.getD i [])) (by omega) (by omega)
    have hin := few_in ls i hi (hf _ (getD_mem [] hi)) _ hls (ls.getD i []).length 0 n (by omega) (by rw [List.drop_zero]; omega) (by rw [List.drop_zero]; exact ih)
    rw [e, ← Nat.add_assoc]
    rw [show ((0 : Nat) : Int) = 0 from rfl] at hin
    exact Ev.step (fun k => by rw [PB.laws_few.l0]) (evp (by omega) (evp (by omega) (evp (by omega) hin)))
theorem wt_fits {l : List ByteArray} (h : Fits l) : wt l ≤ 4611686016279904256 := by have := wt_le h 0; rw [List.drop_zero] at this; omega
theorem few_ev2 (a b : List ByteArray) (ha : Fits a) (hb : Fits b) : Ev (fun k => PB.laws_few.f k [a, b]) (decide (wt a + wt b ≤ 4000)) := by
  have h1 := wt_fits ha
  have h2 := wt_fits hb
  have := few_key [a, b] (by intro l hl; simp at hl; rcases hl with rfl | rfl <;> assumption) (by simp) 2 0 0 rfl (by simp [wts]; omega)
  simpa [wts, PB.laws_few.f] using this
theorem few_ev1 (a : List ByteArray) (ha : Fits a) : Ev (fun k => PB.laws_few.f k [a]) (decide (wt a ≤ 4000)) := by
  have h1 := wt_fits ha
  have := few_key [a] (by intro l hl; simp at hl; subst hl; exact ha) (by simp) 1 0 0 rfl (by simp [wts]; omega)
  simpa [wts, PB.laws_few.f] using this
theorem bt_nat (t : ByteArray) (i : Nat) (h : i < t.size) : bt t (i : Int) = (bs t).getD i 0 := by
  rw [bs_at t i h]
  unfold bt
  rw [dif_pos (by simpa using h)]
  simp
theorem within_key (t : ByteArray) (ht : t.size ≤ 4611686018427387904) : ∀ d i, i + d = t.size → ∃ r, Ev (fun k => PB.laws_within.l0 k t 0 (t.size : Int) (i : Int)) r ∧ (r = false → ∀ j, i ≤ j → j < t.size → (bs t).getD j 0 ≠ 0)
  | 0, i, h => ⟨false, Ev.step (fun k => by rw [PB.laws_within.l0]) (evn (by omega) (Ev.now false)), fun _ j h1 h2 => by omega⟩
  | d + 1, i, h => by
    obtain ⟨r, hr, hp⟩ := within_key t ht d (i + 1) (by omega)
    by_cases hs : bt t (i : Int) = 0
    · exact ⟨true, Ev.step (fun k => by rw [PB.laws_within.l0]) (evp (by omega) (evp (by omega) (evp (by omega) (evp hs (Ev.now true))))), fun h => by cases h⟩
    · refine ⟨r, Ev.step (fun k => by rw [PB.laws_within.l0]) (evp (by omega) (evp (by omega) (evp (by omega) (evn hs (by rw [wrap_up i (by omega)]; exact hr))))), fun h j h1 h2 => ?_⟩
      by_cases e : j = i
      · subst e; rw [← bt_nat t j (by omega)]; exact hs
      · exact hp h j (by omega) h2
theorem bs_range (t : ByteArray) : ∀ c ∈ bs t, 0 ≤ c ∧ c ≤ 255 := by
  intro c hc
  unfold bs at hc
  obtain ⟨b, _, rfl⟩ := List.mem_map.1 hc
  have := b.toNat_lt
  omega
theorem cln_of {t : ByteArray} (h : ∀ j, j < t.size → (bs t).getD j 0 ≠ 0) : Cln t := by
  intro c hc
  have hr := bs_range t c hc
  have h1 : c ≠ 0 := all_getD (P := fun c => c ≠ 0) 0 (fun j hj => h j (by rw [bs_len] at hj; exact hj)) c hc
  unfold Okc
  omega
theorem within_ev (t : ByteArray) (ht : t.size ≤ 4611686018427387904) : ∃ r, Ev (fun k => PB.laws_within.f k t 0) r ∧ (r = false → Cln t) := by
  obtain ⟨r, hr, hp⟩ := within_key t ht t.size 0 (by omega)
  exact ⟨r, hr, fun e => cln_of (fun j hj => hp e j (Nat.zero_le _) hj)⟩
theorem clean_key (l : List ByteArray) (hl : Fits l) : ∀ d i, i + d = l.length → ∃ r, Ev (fun k => PB.laws_clean.l0 k l (l.length : Int) (i : Int)) r ∧ (r = true → ∀ j, i ≤ j → j < l.length → Cln (l.getD j ByteArray.empty))
  | 0, i, h => ⟨true, Ev.step (fun k => by rw [PB.laws_clean.l0]) (evn (by omega) (Ev.now true)), fun _ j h1 h2 => by omega⟩
  | d + 1, i, h => by
    have hl1 := hl.1
    obtain ⟨r, hr, hp⟩ := clean_key l hl d (i + 1) (by omega)
    have hm := hl.2 _ (getD_mem ByteArray.empty (show i < l.length by omega))
    obtain ⟨rw_, hw, hwp⟩ := within_ev (l.getD i ByteArray.empty) (by omega)
    cases rw_ with
    | true => exact ⟨false, Ev.step (fun k => by rw [PB.laws_clean.l0]) (evp (by omega) (evp (by omega) (evp (by omega) (by rw [rdOf_nat]; exact Ev.bind hw (evp rfl (Ev.now false)))))), fun h => by cases h⟩
    | false =>
      refine ⟨r, Ev.step (fun k => by rw [PB.laws_clean.l0]) (evp (by omega) (evp (by omega) (evp (by omega) (by rw [rdOf_nat]; exact Ev.bind hw (evn (by simp) (by rw [wrap_up i (by omega)]; exact hr)))))), fun h j h1 h2 => ?_⟩
      by_cases e : j = i
      · subst e; exact hwp rfl
      · exact hp h j (by omega) h2
theorem clean_ev (l : List ByteArray) (hl : Fits l) : Tru (fun k => PB.laws_clean.f k l) (∀ t ∈ l, Cln t) := by
  obtain ⟨r, hr, hp⟩ := clean_key l hl l.length 0 (by omega)
  exact ⟨r, hr, fun e => all_getD _ (fun j hj => hp e j (Nat.zero_le _) hj)⟩
theorem ids_key (l : List Int) (n : Int) (hl : l.length ≤ 4611686018427387904) : ∀ d i, i + d = l.length → ∃ r, Ev (fun k => PB.laws_goodIDs.l0 k l n l (l.length : Int) (i : Int)) r ∧ (r = true → (l.length : Int) = n ∧ ∀ j, i ≤ j → j < l.length → 0 ≤ l.getD j 0 ∧ l.getD j 0 ≤ 2147483647)
  | 0, i, h => ⟨_, Ev.step (fun k => by rw [PB.laws_goodIDs.l0]) (evn (by omega) (Ev.now _)), fun h => ⟨beq_iff_eq.1 h, fun j h1 h2 => by omega⟩⟩
  | d + 1, i, h => by
    obtain ⟨r, hr, hp⟩ := ids_key l n hl d (i + 1) (by omega)
    have e : rd l (i : Int) = l.getD i 0 := by unfold rd; rw [Int.toNat_natCast]
    by_cases h1 : l.getD i 0 < 0
    · exact ⟨false, Ev.step (fun k => by rw [PB.laws_goodIDs.l0]) (evp (by omega) (evp (by omega) (evp (by omega) (evp (by rw [e]; exact h1) (Ev.now false))))), fun h => by cases h⟩
    · by_cases h2 : l.getD i 0 > 2147483647
      · exact ⟨false, Ev.step (fun k => by rw [PB.laws_goodIDs.l0]) (evp (by omega) (evp (by omega) (evp (by omega) (evn (by rw [e]; exact h1) (evp (by rw [e]; exact h2) (Ev.now false)))))), fun h => by cases h⟩
      · refine ⟨r, Ev.step (fun k => by rw [PB.laws_goodIDs.l0]) (evp (by omega) (evp (by omega) (evp (by omega) (evn (by rw [e]; exact h1) (evn (by rw [e]; exact h2) (by rw [wrap_up i (by omega)]; exact hr)))))), fun h => ⟨(hp h).1, fun j g1 g2 => ?_⟩⟩
        by_cases e : j = i
        · subst e; omega
        · exact (hp h).2 j (by omega) g2
theorem ids_ev (l : List Int) (n : Int) (hl : l.length ≤ 4611686018427387904) : Tru (fun k => PB.laws_goodIDs.f k l n) ((l.length : Int) = n ∧ ∀ d ∈ l, 0 ≤ d ∧ d ≤ 2147483647) := by
  obtain ⟨r, hr, hp⟩ := ids_key l n hl l.length 0 (by omega)
  exact ⟨r, hr, fun e => ⟨(hp e).1, all_getD _ (fun j hj => (hp e).2 j (Nat.zero_le _) hj)⟩⟩
/-- Ascending, none empty, none with a byte 0. -/
structure Ord (l : List ByteArray) (strict : Bool) : Prop where
  cln : ∀ t ∈ l, Cln t
  ne : ∀ t ∈ l, t.toList ≠ []
  up : ∀ i, i + 1 < l.length → Op.bytesLess (l.getD (i + 1) ByteArray.empty).toList (l.getD i ByteArray.empty).toList = false
  str : strict = true → ∀ i, i + 1 < l.length → (l.getD (i + 1) ByteArray.empty).toList ≠ (l.getD i ByteArray.empty).toList
  pos : l ≠ []
theorem ord_key (l : List ByteArray) (st : Bool) (hl : Fits l) : ∀ d i, i + d = l.length → ∃ r, Ev (fun k => PB.laws_ordered.l0 k l st (l.length : Int) (i : Int)) r ∧
    (r = true → 0 < l.length ∧ ∀ j, i ≤ j → j < l.length → Cln (l.getD j ByteArray.empty) ∧ (l.getD j ByteArray.empty).toList ≠ [] ∧ (1 ≤ j → Op.bytesLess (l.getD j ByteArray.empty).toList (l.getD (j - 1) ByteArray.empty).toList = false ∧ (st = true → (l.getD j ByteArray.empty).toList ≠ (l.getD (j - 1) ByteArray.empty).toList)))
  | 0, i, h => ⟨_, Ev.step (fun k => by rw [PB.laws_ordered.l0]) (evn (by omega) (Ev.now _)), fun h => ⟨by have := of_decide_eq_true h; omega, fun j h1 h2 => by omega⟩⟩
  | d + 1, i, h => by
    have hl1 := hl.1
    obtain ⟨r, hr, hp⟩ := ord_key l st hl d (i + 1) (by omega)
    have hil : i < l.length := by omega
    have hm := hl.2 _ (getD_mem ByteArray.empty hil)
    obtain ⟨x, hx⟩ : ∃ x, l.getD i ByteArray.empty = x := ⟨_, rfl⟩
    rw [hx] at hm
    have ex : rdOf ByteArray.empty l (i : Int) = x := by rw [rdOf_nat, hx]
    by_cases h0 : x.toList = []
    · exact ⟨false, Ev.step (fun k => by rw [PB.laws_ordered.l0]) (evp (by omega) (evp (by omega) (evp (by omega) (evp (by rw [ex]; exact h0) (Ev.now false))))), fun h => by cases h⟩
    · obtain ⟨rc, hc, hcp⟩ := clean_ev [x] ⟨by simp, by intro t ht; rw [List.mem_singleton.1 ht]; exact hm⟩
      cases rc with
      | false => exact ⟨false, Ev.step (fun k => by rw [PB.laws_ordered.l0]) (evp (by omega) (evp (by omega) (evp (by omega) (evn (by rw [ex]; exact h0) (by rw [ex]; exact Ev.bind hc (evn (by simp) (Ev.now false))))))), fun h => by cases h⟩
      | true =>
        have hxc := hcp rfl x List.mem_cons_self
        have go : ∀ {q : Nat → Option Bool} {s : Bool}, Ev q s → (∀ k, q k = (if (i : Int) > 0 then (if 0 ≤ (wrap64 ((i : Int) - 1)) then (if (wrap64 ((i : Int) - 1)) < (l.length : Int) then (if (Op.bytesLess (x.toList) ((rdOf ByteArray.empty l (wrap64 ((i : Int) - 1))).toList)) = true then (some false) else (if st = true then (if x.toList = (rdOf ByteArray.empty l (wrap64 ((i : Int) - 1))).toList then (some false) else (PB.laws_ordered.l0 k l st (l.length : Int) (wrap64 ((i : Int) + 1)))) else (PB.laws_ordered.l0 k l st (l.length : Int) (wrap64 ((i : Int) + 1))))) else (none)) else (none)) else (PB.laws_ordered.l0 k l st (l.length : Int) (wrap64 ((i : Int) + 1))))) → Ev (fun k => PB.laws_ordered.l0 k l st (l.length : Int) (i : Int)) s := fun hq hqe =>
          Ev.step (fun k => by rw [PB.laws_ordered.l0]) (evp (by omega) (evp (by omega) (evp (by omega) (evn (by rw [ex]; exact h0) (by rw [ex]; exact Ev.bind hc (evp rfl (Ev.congr (fun k => (hqe k).symm) hq)))))))
        by_cases hi0 : i = 0
        · subst hi0
          refine ⟨r, go (evn (by omega) (by rw [wrap_up 0 (by omega)]; exact hr)) (fun k => rfl), fun h => ⟨(hp h).1, fun j g1 g2 => ?_⟩⟩
          by_cases e : j = 0
          · subst e; rw [hx]; exact ⟨hxc, h0, fun h => by omega⟩
          · exact (hp h).2 j (by omega) g2
        · have ew := wrap_dn i (by omega) (by omega)
          obtain ⟨y, hy⟩ : ∃ y, l.getD (i - 1) ByteArray.empty = y := ⟨_, rfl⟩
          have ey : rdOf ByteArray.empty l (wrap64 ((i : Int) - 1)) = y := by rw [ew, rdOf_nat, hy]
          have fin : ∀ s : Bool, (s = true → r = true) → (s = true → Op.bytesLess x.toList y.toList = false ∧ (st = true → x.toList ≠ y.toList)) → (s = true → 0 < l.length ∧ ∀ j, i ≤ j → j < l.length → Cln (l.getD j ByteArray.empty) ∧ (l.getD j ByteArray.empty).toList ≠ [] ∧ (1 ≤ j → Op.bytesLess (l.getD j ByteArray.empty).toList (l.getD (j - 1) ByteArray.empty).toList = false ∧ (st = true → (l.getD j ByteArray.empty).toList ≠ (l.getD (j - 1) ByteArray.empty).toList))) := by
            intro s hs1 hs2 hs
            have hrp := hp (hs1 hs)
            refine ⟨hrp.1, fun j g1 g2 => ?_⟩
            by_cases e : j = i
            · subst e; rw [hx, hy]; exact ⟨hxc, h0, fun _ => hs2 hs⟩
            · exact hrp.2 j (by omega) g2
          by_cases hb : Op.bytesLess x.toList y.toList = true
          · exact ⟨false, go (evp (by omega) (evp (by rw [ew]; omega) (evp (by rw [ew]; omega) (evp (by rw [ey]; exact hb) (Ev.now false))))) (fun k => rfl), fun h => by cases h⟩
          · have hbf : Op.bytesLess x.toList y.toList = false := by simpa using hb
            by_cases hst : st = true
            · by_cases hxy : x.toList = y.toList
              · exact ⟨false, go (evp (by omega) (evp (by rw [ew]; omega) (evp (by rw [ew]; omega) (evn (by rw [ey]; exact hb) (evp hst (evp (by rw [ey]; exact hxy) (Ev.now false))))))) (fun k => rfl), fun h => by cases h⟩
              · exact ⟨r, go (evp (by omega) (evp (by rw [ew]; omega) (evp (by rw [ew]; omega) (evn (by rw [ey]; exact hb) (evp hst (evn (by rw [ey]; exact hxy) (by rw [wrap_up i (by omega)]; exact hr))))))) (fun k => rfl), fin r id (fun _ => ⟨hbf, fun _ => hxy⟩)⟩
            · exact ⟨r, go (evp (by omega) (evp (by rw [ew]; omega) (evp (by rw [ew]; omega) (evn (by rw [ey]; exact hb) (evn hst (by rw [wrap_up i (by omega)]; exact hr)))))) (fun k => rfl), fin r id (fun _ => ⟨hbf, fun h => absurd h hst⟩)⟩
theorem ord_ev (l : List ByteArray) (st : Bool) (hl : Fits l) : Tru (fun k => PB.laws_ordered.f k l st) (Ord l st) := by
  obtain ⟨r, hr, hp⟩ := ord_key l st hl l.length 0 (by omega)
  refine ⟨r, hr, fun e => ?_⟩
  obtain ⟨h0, h⟩ := hp e
  exact ⟨all_getD _ (fun j hj => (h j (Nat.zero_le _) hj).1), all_getD (P := fun t => t.toList ≠ []) _ (fun j hj => (h j (Nat.zero_le _) hj).2.1), fun i hi => by have := ((h (i + 1) (Nat.zero_le _) hi).2.2 (by omega)).1; rw [Nat.add_sub_cancel] at this; exact this, fun hs i hi => by have := ((h (i + 1) (Nat.zero_le _) hi).2.2 (by omega)).2 hs; rw [Nat.add_sub_cancel] at this; exact this, List.length_pos_iff.1 h0⟩
end Go.Proofs.Ytaejkbjepbifcaa.Da
namespace Go.Proofs.Ytaejkbjepbifcaa.Da
open Go.RowKit Go.Proofs.YtaejkbjepbifcaaW.PrintWords Go.Proofs.Ytaejkbjepbifcaa.Plain
set_option linter.unusedVariables false
set_option linter.unusedSimpArgs false
theorem le_of_not : ∀ (x y : List UInt8), ¬ y < x → le (x.map (fun b => (b.toNat : Int))) (y.map (fun b => (b.toNat : Int)))
  | [], _, _ => trivial
  | a :: x, [], h => absurd (List.nil_lt_cons a x) h
  | a :: x, b :: y, h => by
    rw [List.cons_lt_cons_iff] at h
    show (a.toNat : Int) < b.toNat ∨ ((a.toNat : Int) = b.toNat ∧ le _ _)
    by_cases e : a = b
    · subst e
      exact Or.inr ⟨rfl, le_of_not x y (fun h2 => h (Or.inr ⟨rfl, h2⟩))⟩
    · left
      have h1 : ¬ b < a := fun h2 => h (Or.inl h2)
      rw [UInt8.lt_iff_toNat_lt] at h1
      have h2 : a.toNat ≠ b.toNat := fun h2 => e (UInt8.toNat_inj.1 h2)
      omega
theorem up_le {l : List ByteArray} (h : ∀ i, i + 1 < l.length → Op.bytesLess (l.getD (i + 1) ByteArray.empty).toList (l.getD i ByteArray.empty).toList = false) : ∀ d i, i + d < l.length → ¬ (l.getD (i + d) ByteArray.empty).toList < (l.getD i ByteArray.empty).toList
  | 0, i, _ => List.lt_irrefl _
  | d + 1, i, hd => by
    have ih := up_le h d i (by omega)
    have h1 := h (i + d) (by omega)
    rw [Own.bl_eq, decide_eq_false_iff_not] at h1
    rw [show i + (d + 1) = i + d + 1 by omega]
    have a : (l.getD i ByteArray.empty).toList ≤ (l.getD (i + d) ByteArray.empty).toList := List.not_lt.1 ih
    have b : (l.getD (i + d) ByteArray.empty).toList ≤ (l.getD (i + d + 1) ByteArray.empty).toList := List.not_lt.1 h1
    exact List.not_lt.2 (List.le_trans a b)
theorem le_words {l : List ByteArray} (h : ∀ i, i + 1 < l.length → Op.bytesLess (l.getD (i + 1) ByteArray.empty).toList (l.getD i ByteArray.empty).toList = false) {i j : Nat} (hij : i < j) (hj : j < l.length) : le (word l i) (word l j) := by
  have := up_le h (j - i) i (by omega)
  rw [show i + (j - i) = j by omega, Lib.toList_data, Lib.toList_data] at this
  exact le_of_not _ _ this
theorem wt_len (l : List ByteArray) : l.length ≤ wt l := by
  induction l with
  | nil => exact Nat.le_refl _
  | cons t l ih => simp only [wt, List.map_cons, List.sum_cons, List.length_cons] at ih ⊢; omega
theorem wt_mem {l : List ByteArray} {t : ByteArray} (h : t ∈ l) : t.size ≤ wt l := by
  induction l with
  | nil => cases h
  | cons u l ih =>
    simp only [wt, List.map_cons, List.sum_cons] at ih ⊢
    rcases List.mem_cons.1 h with rfl | h
    · omega
    · have := ih h; omega
theorem tot_wt (ss : List ByteArray) (ds : List Int) : tot (keysAll ss ds) ≤ wt ss := by
  have key : ∀ n, n ≤ ss.length → ((List.range n).map (fun z => (word ss z).length)).sum ≤ wt (ss.take n) := by
    intro n
    induction n with
    | zero => intro _; exact Nat.zero_le _
    | succ n ih =>
      intro hn
      have := ih (by omega)
      rw [List.range_succ, List.map_append, List.sum_append, List.take_succ_eq_append_getElem (by omega)]
      unfold wt at this ⊢
      rw [List.map_append, List.sum_append]
      have e : (word ss n).length = (ss[n]'(by omega)).size := by
        unfold word
        rw [bs_len, List.getD_eq_getElem?_getD, List.getElem?_eq_getElem (by omega)]; rfl
      simp only [List.map_cons, List.map_nil, List.sum_cons, List.sum_nil, e]
      omega
  have := key ss.length (Nat.le_refl _)
  rw [List.take_length] at this
  refine Nat.le_trans (Nat.le_of_eq ?_) this
  unfold tot keysAll keysOf
  rw [List.map_map]
  congr 1
theorem keys_ok {ss : List ByteArray} {ds : List Int} {st : Bool} (hw : wt ss ≤ 4000) (ho : Ord ss st) (hl : ds.length = ss.length) (hd : ∀ d ∈ ds, 0 ≤ d ∧ d ≤ 2147483647) : KeysOk ss ds := by
  have h1 := wt_len ss
  refine ⟨ho.pos, hl, by omega, fun t ht => by have := wt_mem ht; omega, hd, ?_, ?_, by have := tot_wt ss ds; omega⟩
  · intro k hk
    obtain ⟨z, hz, rfl⟩ := List.mem_map.1 hk
    show Okw ((word ss z).drop 0)
    rw [List.drop_zero]
    exact ho.cln _ (getD_mem _ (List.mem_range.1 hz))
  · show List.Pairwise _ ((List.range ss.length).map _)
    rw [List.pairwise_map]
    refine List.pairwise_lt_range.imp_of_mem (fun {a b} ha hb hab => ?_)
    show le ((word ss a).drop 0) ((word ss b).drop 0)
    rw [List.drop_zero, List.drop_zero]
    exact le_words ho.up hab (List.mem_range.1 hb)
theorem nan_f (a : ByteArray) : PB.cmp_isNaN_string.f a = some false := by simp [PB.cmp_isNaN_string.f]
theorem less_f (a b : ByteArray) : PB.cmp_Less_string.f a b = some (Op.bytesLess a.toList b.toList) := by simp [PB.cmp_Less_string.f, nan_f]
theorem sorted_key (l : List ByteArray) (hl : l.length ≤ 4611686018427387904) (h : ∀ i, i + 1 < l.length → Op.bytesLess (l.getD (i + 1) ByteArray.empty).toList (l.getD i ByteArray.empty).toList = false) : ∀ i, i < l.length → Ev (fun k => PB.slices_IsSorted_string_string.l0 k l (i : Int)) true
  | 0, hi => Ev.step (fun k => by rw [PB.slices_IsSorted_string_string.l0]) (evn (by omega) (Ev.now true))
  | i + 1, hi => by
    have ih := sorted_key l hl h i (by omega)
    have e : wrap64 (((i + 1 : Nat) : Int) - 1) = (i : Int) := by rw [wrap_dn (i + 1) (by omega) (by omega)]; rfl
    refine Ev.step (fun k => by rw [PB.slices_IsSorted_string_string.l0]) (evp (by omega) (evp (by omega) (evp (by omega) (evp (by rw [e]; omega) (evp (by rw [e]; omega) ?_)))))
    rw [e, rdOf_nat, rdOf_nat, less_f, h i hi]
    exact Ev.bind (Ev.now false) (evn (by simp) ih)
theorem sorted_ev (l : List ByteArray) (h0 : l ≠ []) (hl : l.length ≤ 4611686018427387904) (h : ∀ i, i + 1 < l.length → Op.bytesLess (l.getD (i + 1) ByteArray.empty).toList (l.getD i ByteArray.empty).toList = false) : ∃ k, PB.slices_IsSorted_string_string.f k l = some true := by
  have hp := List.length_pos_iff.2 h0
  have := sorted_key l hl h (l.length - 1) (by omega)
  have e : wrap64 ((l.length : Int) - 1) = ((l.length - 1 : Nat) : Int) := wrap_dn _ (by omega) hl
  obtain ⟨k, hk⟩ := this.rounds
  exact ⟨k, by unfold PB.slices_IsSorted_string_string.f; rw [e]; exact hk⟩
/-- The same lists. -/
theorem same_key (l : List PB.S39) (hl : l.length ≤ 4611686018427387904) : ∀ d i, i + d = l.length → Ev (fun k => PB.impl_Hit.l0 k l l (l.length : Int) (i : Int)) true
  | 0, i, h => Ev.step (fun k => by rw [PB.impl_Hit.l0]) (evn (by omega) (Ev.now true))
  | d + 1, i, h => by
    have ih := same_key l hl d (i + 1) (by omega)
    exact Ev.step (fun k => by rw [PB.impl_Hit.l0]) (evp (by omega) (evp (by omega) (evp (by omega) (evp (by omega) (evn (by simp) (by rw [wrap_up i (by omega)]; exact ih))))))
theorem same_ev (l : List PB.S39) (hl : l.length ≤ 4611686018427387904) : Ev (fun k => PB.impl_Hit.f k l l) true := by
  have := same_key l hl l.length 0 (by omega)
  exact evp rfl this
/-- An answer in a row. -/
theorem ans_at {w : World} {base g c : Nat} {ok : Nat → Prop} {l : List PB.S34} (h : Kd.R PB.k34 34 w base ok (.slice (some ⟨g, 0, none⟩) l.length c) l) (j : Nat) (hj : j < l.length) (a : PB.S34) (ha : l[j]? = some a) :
    ∃ A4 c4 A5 c5, w.cell? ⟨g, j * 6, none⟩ = some (.int .i64 a.f0.f0) ∧ w.cell? ⟨g, j * 6 + 1, none⟩ = some (.bool a.f0.f1) ∧ w.cell? ⟨g, j * 6 + 2, none⟩ = some (.int .i64 a.f1.f0) ∧ w.cell? ⟨g, j * 6 + 3, none⟩ = some (.bool a.f1.f1) ∧ w.cell? ⟨g, j * 6 + 4, none⟩ = some (.slice A4 a.f2.length c4) ∧ w.cell? ⟨g, j * 6 + 5, none⟩ = some (.slice A5 a.f3.length c5) ∧
      Kd.R PB.k39 39 w base ok (.slice A4 a.f2.length c4) a.f2 ∧ Kd.R PB.k39 39 w base ok (.slice A5 a.f3.length c5) a.f3 := by
  obtain ⟨_, hR⟩ := h
  obtain ⟨A, c', e1, l1, hr⟩ := OwnRow.reads hR
  cases e1
  obtain ⟨ad, e2, hx⟩ := hr.2.2 (by omega)
  cases e2
  obtain ⟨cs, _, hM, hc⟩ := hx j a ha
  obtain ⟨v4, v5, rfl, g4, g5⟩ := PB.k34_openM hM
  obtain ⟨A4, c4, rfl⟩ := Kd.R_slice g4
  obtain ⟨A5, c5, rfl⟩ := Kd.R_slice g5
  have e3 : ∀ i, (⟨g, 0, none⟩ : Addr).add (j * PB.k34.sz + i) = ⟨g, j * 6 + i, none⟩ := fun i => by
    show (⟨g, 0, none⟩ : Addr).add (j * 6 + i) = _
    rw [add_at0, Nat.zero_add]
  refine ⟨A4, c4, A5, c5, ?_, ?_, ?_, ?_, ?_, ?_, Kd.R_mono g4 (fun k hk => hk.1), Kd.R_mono g5 (fun k hk => hk.1)⟩
  · have := hc 0 _ rfl; rw [e3] at this; exact this
  · have := hc 1 _ rfl; rw [e3] at this; exact this
  · have := hc 2 _ rfl; rw [e3] at this; exact this
  · have := hc 3 _ rfl; rw [e3] at this; exact this
  · have := hc 4 _ rfl; rw [e3] at this; exact this
  · have := hc 5 _ rfl; rw [e3] at this; exact this
/-- What laws.trie hands back. -/
def TrA (W w' : World) (L : Keys) (s : ByteArray) (e : Ending) : Prop := ∃ A4 c4 A5 c5, e = .returned (.tuple #[.agg #[.int .i64 (fnd L s).1, .bool (fnd L s).2, .int .i64 (lng L s).1, .bool (lng L s).2, .slice A4 (hitsS L (bs s) (bs s).length).length c4, .slice A5 (hitsS L (bs s) (bs s).length).length c5], .bool true]) ∧
  Kd.R PB.k39 39 w' W.heap.size (fun _ => True) (.slice A4 (hitsS L (bs s) (bs s).length).length c4) (hitsS L (bs s) (bs s).length) ∧ Kd.R PB.k39 39 w' W.heap.size (fun _ => True) (.slice A5 (hitsS L (bs s) (bs s).length).length c5) (hitsS L (bs s) (bs s).length) ∧ Below W.heap.size W w'
/-- The answer is stored in the result's box. -/
theorem row_far {w : World} {base xb i : Nat} {v u : Value} {xs : List PB.S39} (h : Kd.R PB.k39 39 w base (fun _ => True) v xs) (hb : xb < base) : Kd.R PB.k39 39 (w.setCell ⟨xb, i, none⟩ u) base (fun _ => True) v xs :=
  Kd.R_mono (Kd.R_far (p := ⟨xb, i, none⟩) (Kd.R_mono (Kd.R_bound h) (ok' := fun k => k ≠ xb) (fun k hk => by have := hk.2.1; omega)) (fun k hk => hk) u) (fun _ _ => trivial)
theorem ltrie_end {W w : World} {L : Keys} {s : ByteArray} {A4 A5 : Option Addr} {c4 c5 : Nat} {u0 u1 u2 u3 u4 u5 : Value} (hB : Below W.heap.size W w) (h4 : Kd.R PB.k39 39 w (W.heap.size + 1 + 1) (fun _ => True) (.slice A4 (hitsS L (bs s) (bs s).length).length c4) (hitsS L (bs s) (bs s).length)) (h5 : Kd.R PB.k39 39 w (W.heap.size + 1 + 1) (fun _ => True) (.slice A5 (hitsS L (bs s) (bs s).length).length c5) (hitsS L (bs s) (bs s).length)) :
    TrA W ((((((w.setCell ⟨W.heap.size, 0, none⟩ u0).setCell ⟨W.heap.size, 1, none⟩ u1).setCell ⟨W.heap.size, 2, none⟩ u2).setCell ⟨W.heap.size, 3, none⟩ u3).setCell ⟨W.heap.size, 4, none⟩ u4).setCell ⟨W.heap.size, 5, none⟩ u5) L s (.returned (.tuple #[.agg #[.int .i64 (fnd L s).1, .bool (fnd L s).2, .int .i64 (lng L s).1, .bool (lng L s).2, .slice A4 (hitsS L (bs s) (bs s).length).length c4, .slice A5 (hitsS L (bs s) (bs s).length).length c5], .bool true])) := by
  have k1 : W.heap.size < W.heap.size + 1 + 1 := by omega
  exact ⟨A4, c4, A5, c5, rfl, Kd.R_lower (row_far (row_far (row_far (row_far (row_far (row_far h4 k1) k1) k1) k1) k1) k1) (by omega), Kd.R_lower (row_far (row_far (row_far (row_far (row_far (row_far h5 k1) k1) k1) k1) k1) k1) (by omega), (((((hB.setCell (Nat.le_refl _) _).setCell (Nat.le_refl _) _).setCell (Nat.le_refl _) _).setCell (Nat.le_refl _) _).setCell (Nat.le_refl _) _).setCell (Nat.le_refl _) _⟩
set_option maxHeartbeats 16000000 in
set_option maxRecDepth 100000 in
theorem ltrie_calls (W : World) (A0 A1 : Option Addr) (c0 c1 k : Nat) (ss : List ByteArray) (s : ByteArray) (ds : List Int) (hr0 : Kd.C Kd.string W A0 ss.length ss) (hc0 : ss.length ≤ c0) (hr1 : Kd.C (Kd.int .i64) W A1 ds.length ds) (hc1 : ds.length ≤ c1) (hs : PB.slices_IsSorted_string_string.f k ss = some true) (K : KeysOk ss ds) (hI : Cln s ∧ s.size ≤ 1000000000) :
    Calls Try.prog 15 #[.slice A0 ss.length c0, .slice A1 ds.length c1, .string s] W fun e w' => TrA W w' (keysAll ss ds) s e := by
  have HR0 := Aside0.mk hr0
  have HR1 := Aside0.mk hr1
  have HC0 := Aside0.mk hc0
  have HC1 := Aside0.mk hc1
  have HK := Aside0.mk K
  have HI := Aside0.mk hI
  have HS := Aside0.mk hs
  clear hr0 hr1 hc0 hc1 hs K hI
  go_enter Try.func15, Try.ntmps15
  have HT : Aside0 (∀ (w1 : World) (b : Nat), b = w1.heap.size → Below W.heap.size W w1 → Calls Try.prog 17 #[.slice A0 ss.length c0, .slice A1 ds.length c1, .slice (some ⟨b, 0, none⟩) 1 1] (w1.alloc (.cells #[.string s] 9)) fun e w' => ∃ g c A4 c4 A5 c5, e = .returned (.tuple #[.slice (some ⟨g, 0, none⟩) 1 c, .int .i64 0]) ∧ (w'.cell? ⟨g, 0, none⟩ = some (.int .i64 (fnd (keysAll ss ds) s).1) ∧ w'.cell? ⟨g, 1, none⟩ = some (.bool (fnd (keysAll ss ds) s).2) ∧ w'.cell? ⟨g, 2, none⟩ = some (.int .i64 (lng (keysAll ss ds) s).1) ∧ w'.cell? ⟨g, 3, none⟩ = some (.bool (lng (keysAll ss ds) s).2) ∧ w'.cell? ⟨g, 4, none⟩ = some (.slice A4 (hitsS (keysAll ss ds) (bs s) (bs s).length).length c4) ∧ w'.cell? ⟨g, 5, none⟩ = some (.slice A5 (hitsS (keysAll ss ds) (bs s) (bs s).length).length c5)) ∧
      Aside0 (Kd.R PB.k39 39 w' (w1.heap.size + 1) (fun _ => True) (.slice A4 (hitsS (keysAll ss ds) (bs s) (bs s).length).length c4) (hitsS (keysAll ss ds) (bs s) (bs s).length) ∧ Kd.R PB.k39 39 w' (w1.heap.size + 1) (fun _ => True) (.slice A5 (hitsS (keysAll ss ds) (bs s) (bs s).length).length c5) (hitsS (keysAll ss ds) (bs s) (bs s).length)) ∧ Aside0 (g ≠ W.heap.size) ∧ Aside0 (Below (w1.heap.size + 1) (w1.alloc (.cells #[.string s] 9)) w')) := ⟨fun w1 b hbe hb => by
    subst hbe
    have hb2 := below_alloc hb (.cells #[.string s] 9)
    refine (trie_calls _ A0 A1 (some ⟨w1.heap.size, 0, none⟩) c0 c1 1 k ss [s] ds (Kd.C_below HR0.out hb2) HC0.out (Kd.C_below HR1.out hb2) HC1.out (Own.C_alloc_new w1 [s] 9 (0, 0) _ rfl (by simp)) HS.out HK.out ⟨by simp, fun t ht => by rw [List.mem_singleton.1 ht]; exact HI.out⟩).mono ?_
    rintro e w' ⟨ov, rfl, hR, hB⟩
    have hz : (w1.alloc (.cells #[.string s] 9)).heap.size = w1.heap.size + 1 := Own.size_alloc _ _
    rw [hz] at hR hB
    obtain ⟨g, c, rfl, hg0, hg, _, _⟩ := own_head hR (by simp)
    obtain ⟨A4, c4, A5, c5, h0, h1, h2, h3, h4, h5, g4, g5⟩ := ans_at hR 0 (by simp) (ans (keysAll ss ds) s) rfl
    simp only [Nat.zero_mul, Nat.zero_add] at h0 h1 h2 h3 h4 h5
    have hz2 := hb.size
    exact ⟨g, c, A4, c4, A5, c5, rfl, ⟨h0, h1, h2, h3, h4, h5⟩, ⟨g4, g5⟩, ⟨by omega⟩, ⟨hB⟩⟩⟩
  go_upto_region 2 with (go_at_call 17; refine (HT.out _ _ (Own.size_alloc _ _).symm (below_alloc (Below.refl _ _) _)).mono ?_; rintro e_ w2 ⟨g, c, A4, c4, A5, c5, rfl, ⟨k0, k1, k2, k3, k4, k5⟩, HC, HNE, HB⟩)
  have hb1 : (W.alloc (.cells #[.int .i64 0, .bool false, .int .i64 0, .bool false, .slice none 0 0, .slice none 0 0] 34)).heap.size = W.heap.size + 1 := Own.size_alloc _ _
  have hbx : ABox w2 W.heap.size (.int .i64 0) (.bool false) (.int .i64 0) (.bool false) (.slice none 0 0) (.slice none 0 0) :=
    (HB.out.block _ (by omega)).trans (((below_alloc (Below.refl _ _) _).block _ (by omega)).trans (blk_new W _))
  obtain ⟨x0, x1, x2, x3, x4, x5⟩ := hbx.cells
  have f0 := hbx.froz 0
  have f1 := hbx.froz 1
  have f2 := hbx.froz 2
  have f3 := hbx.froz 3
  have f4 := hbx.froz 4
  have f5 := hbx.froz 5
  have HBX := Aside0.mk hbx
  have HB1 := Aside0.mk hb1
  have HBW : Aside0 (Below W.heap.size W w2) := ⟨below_weaken (below_alloc (below_alloc (Below.refl _ _) _) _) (by omega) HB.out⟩
  have HZ : Aside0 (W.heap.size ≤ W.heap.size + 1) := ⟨by omega⟩
  rw [hb1] at HC
  clear hbx hb1
  go_wp2_with fail
  exact bodyPost_ret (v := .tuple #[.agg #[.int .i64 (fnd (keysAll ss ds) s).1, .bool (fnd (keysAll ss ds) s).2, .int .i64 (lng (keysAll ss ds) s).1, .bool (lng (keysAll ss ds) s).2, .slice A4 (hitsS (keysAll ss ds) (bs s) (bs s).length).length c4, .slice A5 (hitsS (keysAll ss ds) (bs s) (bs s).length).length c5], .bool true]) (by simp [results, Try.results15, go_sem, x0, x1, x2, x3, x4, x5]) rfl (ltrie_end HBW.out HC.out.1 HC.out.2)
end Go.Proofs.Ytaejkbjepbifcaa.Da
namespace Go.Proofs.Ytaejkbjepbifcaa.Da
open Go.RowKit Go.Proofs.YtaejkbjepbifcaaW.PrintWords Go.Proofs.Ytaejkbjepbifcaa.Plain
set_option linter.unusedVariables false
set_option linter.unusedSimpArgs false
abbrev ta : ByteArray := { data := #[97] }
abbrev tab : ByteArray := { data := #[97, 98] }
def La : Keys := keysAll [ta, tab] [3, 5]
theorem cln_a : Cln ta := by intro c hc; have : c = 97 := by simpa [bs, ta] using hc
                             subst this; unfold Okc; omega
theorem cln_ab : Cln tab := by
  intro c hc
  have : c = 97 ∨ c = 98 := by simpa [bs, tab] using hc
  unfold Okc
  omega
theorem two_ord : Ord [ta, tab] true := by
  refine ⟨?_, ?_, ?_, ?_, by simp⟩
  · intro t ht
    simp only [List.mem_cons, List.not_mem_nil, or_false] at ht
    rcases ht with rfl | rfl
    · exact cln_a
    · exact cln_ab
  · intro t ht
    simp only [List.mem_cons, List.not_mem_nil, or_false] at ht
    rcases ht with rfl | rfl <;> rw [Lib.toList_data] <;> decide
  · intro i hi
    obtain rfl : i = 0 := by simp at hi; omega
    rw [Lib.toList_data, Lib.toList_data]; decide
  · intro _ i hi
    obtain rfl : i = 0 := by simp at hi; omega
    rw [Lib.toList_data, Lib.toList_data]; decide
theorem two_ok : KeysOk [ta, tab] [3, 5] := keys_ok (by decide) two_ord rfl (by decide)
theorem two_fnd : fnd La tab = (5, true) := by decide
theorem two_hits : hitsS La (bs tab) (bs tab).length = [⟨3, 1⟩, ⟨5, 2⟩] := by rfl
theorem new1 {α : Type} {enc : α → Value} {h1 : ∀ x, (enc x).oneCell' = true} (w : World) (b : Nat) (hb : b = w.heap.size) (xs : List α) (e : TypeId) (cs : Array Value) (hcs : cs = (xs.map enc).toArray) (hm : xs.length ≤ 9223372036854775807) :
    (Kd.scalar enc h1).C (w.alloc (.cells cs e (0, 0))) (some ⟨b, 0, none⟩) xs.length xs := by
  subst hb
  exact Own.C_alloc_new w xs e (0, 0) cs hcs hm
/-- A new row of two hits. -/
theorem new_hits (w : World) (b : Nat) (hb : b = w.heap.size) (p q : PB.S39) : Kd.C PB.k39 (w.alloc (.cells #[.int .i64 p.f0, .int .i64 p.f1, .int .i64 q.f0, .int .i64 q.f1] 39 (0, 0))) (some ⟨b, 0, none⟩) 2 [p, q] := by
  subst hb
  refine ⟨rfl, by simp, fun _ => ⟨_, rfl, fun j x hj => ?_⟩⟩
  have e : ∀ i, (⟨w.heap.size, 0, none⟩ : Addr).add (j * PB.k39.sz + i) = ⟨w.heap.size, j * 2 + i, none⟩ := fun i => by
    show (⟨w.heap.size, 0, none⟩ : Addr).add (j * 2 + i) = _
    rw [add_at0, Nat.zero_add]
  refine ⟨[.int .i64 x.f0, .int .i64 x.f1], rfl, PB.k39_mk _ _, fun i u hu => ?_⟩
  rw [e, Own.alloc_cell]
  have hi : i < 2 := by have := (List.getElem?_eq_some_iff.1 hu).1; simpa using this
  have hj2 : j < 2 := by have := (List.getElem?_eq_some_iff.1 hj).1; simpa using this
  have : j = 0 ∨ j = 1 := by omega
  have : i = 0 ∨ i = 1 := by omega
  rcases ‹j = 0 ∨ j = 1› with rfl | rfl <;> rcases ‹i = 0 ∨ i = 1› with rfl | rfl <;> simp at hj hu <;> subst hj <;> subst hu <;> rfl
theorem row_reads {α : Type} {d : Kd α} {e : Nat} {w : World} {base : Nat} {ok : Nat → Prop} {A : Option Addr} {n c : Nat} {xs : List α} (h : Kd.R d e w base ok (.slice A n c) xs) : xs.length ≤ c ∧ Kd.C d w A xs.length xs := by
  obtain ⟨A', c', e1, l1, g1⟩ := Kd.R_reads h
  cases e1
  exact ⟨l1, g1⟩
set_option maxHeartbeats 16000000 in
set_option maxRecDepth 100000 in
theorem builds_calls (W : World) : Calls Try.prog 14 #[] W fun e w' => e = .returned (.bool true) ∧ Below W.heap.size W w' := by
  obtain ⟨kk, hk⟩ := sorted_ev [ta, tab] (by simp) (by simp) two_ord.up
  obtain ⟨ks, hks⟩ := (same_ev [⟨3, 1⟩, ⟨5, 2⟩] (by simp)).rounds
  have HK := Aside0.mk hk
  have HKS := Aside0.mk hks
  clear hk hks
  have HT : Aside0 (∀ (w : World) (b0 b1 b2 : Nat), Kd.C Kd.string w (some ⟨b0, 0, none⟩) 2 [ta, tab] → Kd.C (Kd.int .i64) w (some ⟨b1, 0, none⟩) 2 [3, 5] → Kd.C Kd.string w (some ⟨b2, 0, none⟩) 1 [tab] →
      Calls Try.prog 17 #[.slice (some ⟨b0, 0, none⟩) 2 2, .slice (some ⟨b1, 0, none⟩) 2 2, .slice (some ⟨b2, 0, none⟩) 1 1] w fun e w' => ∃ g c A4 c4 A5 c5, e = .returned (.tuple #[.slice (some ⟨g, 0, none⟩) 1 c, .int .i64 0]) ∧ (w'.cell? ⟨g, 0, none⟩ = some (.int .i64 5) ∧ w'.cell? ⟨g, 1, none⟩ = some (.bool true) ∧ w'.cell? ⟨g, 4, none⟩ = some (.slice A4 2 c4) ∧ w'.cell? ⟨g, 2, none⟩ = some (.int .i64 (lng La tab).1) ∧ w'.cell? ⟨g, 3, none⟩ = some (.bool (lng La tab).2) ∧ w'.cell? ⟨g, 5, none⟩ = some (.slice A5 2 c5)) ∧ Aside0 (Kd.R PB.k39 39 w' w.heap.size (fun _ => True) (.slice A4 2 c4) [⟨3, 1⟩, ⟨5, 2⟩]) ∧ Aside0 (Below w.heap.size w w')) := ⟨fun w b0 b1 b2 h0 h1 h2 => by
    refine (trie_calls w (some ⟨b0, 0, none⟩) (some ⟨b1, 0, none⟩) (some ⟨b2, 0, none⟩) 2 2 1 kk [ta, tab] [tab] [3, 5] h0 (by simp) h1 (by simp) h2 HK.out two_ok ⟨by simp, fun t ht => by rw [List.mem_singleton.1 ht]; exact ⟨cln_ab, by decide⟩⟩).mono ?_
    rintro e w' ⟨ov, rfl, hR, hB⟩
    obtain ⟨g, c, rfl, hg0, hg, _, _⟩ := own_head hR (by simp)
    obtain ⟨A4, c4, A5, c5, h0, h1, h2, h3, h4, h5, g4, g5⟩ := ans_at hR 0 (by simp) (ans La tab) rfl
    simp only [Nat.zero_mul, Nat.zero_add] at h0 h1 h2 h3 h4 h5
    have e1 : (ans La tab).f2 = [⟨3, 1⟩, ⟨5, 2⟩] := two_hits
    have e2 : (ans La tab).f3 = [⟨3, 1⟩, ⟨5, 2⟩] := two_hits
    rw [e1] at h4 g4
    rw [e2] at h5
    exact ⟨g, c, A4, c4, A5, c5, rfl, ⟨h0.trans (by rw [show (ans La tab).f0.f0 = (fnd La tab).1 from rfl, two_fnd]), h1.trans (by rw [show (ans La tab).f0.f1 = (fnd La tab).2 from rfl, two_fnd]), h4, h2, h3, h5⟩, ⟨g4⟩, ⟨hB⟩⟩⟩
  go_enter Try.func14, Try.ntmps14
  go_upto_region 2 with (go_at_call 17; refine (HT.out _ _ _ _ (Kd.C_below (new1 _ _ rfl [ta, tab] _ _ rfl (by simp)) (below_alloc (below_alloc (Below.refl _ _) _) _)) (Kd.C_below (new1 _ _ (Own.size_alloc _ _).symm [3, 5] _ _ rfl (by simp)) (below_alloc (Below.refl _ _) _)) (new1 _ _ ((congrArg (· + 1) (Own.size_alloc _ _)).symm.trans (Own.size_alloc _ _).symm) [tab] _ _ rfl (by simp))).mono ?_; rintro e_ w2 ⟨g, c, A4, c4, A5, c5, rfl, ⟨k0, k1, k4, k2, k3, k5⟩, HC, HB⟩)
  obtain ⟨hl4, hC4⟩ := row_reads HC.out
  have HL4 := Aside0.mk hl4
  have HC4 := Aside0.mk hC4
  have HBW : Aside0 (Below W.heap.size W w2) := ⟨below_step (below_alloc (below_alloc (below_alloc (Below.refl _ _) _) _) _) HB.out⟩
  clear hl4 hC4 HC HB HT
  go_wp2_with (go_at_call 16; refine (PB.impl_Hit.calls ks A4 c4 [⟨3, 1⟩, ⟨5, 2⟩] _ 2 [⟨3, 1⟩, ⟨5, 2⟩] true _ (Kd.C_below HC4.out (below_alloc (Below.refl _ _) _)) HL4.out (new_hits _ _ rfl ⟨3, 1⟩ ⟨5, 2⟩) (Nat.le_refl _) HKS.out).mono ?_; rintro e_ w3 ⟨rfl, ⟨q3, rfl⟩⟩)
  go_ret
  exact ⟨rfl, pw_below_drewN (below_alloc HBW.out _) _⟩
end Go.Proofs.Ytaejkbjepbifcaa.Da
namespace Go.Proofs.Ytaejkbjepbifcaa.Da
open Go.RowKit Go.Proofs.YtaejkbjepbifcaaW.PrintWords Go.Proofs.Ytaejkbjepbifcaa.Plain
set_option linter.unusedVariables false
set_option linter.unusedSimpArgs false
theorem new_two (w : World) (g : Nat) (hg : g = w.heap.size) (A0 A1 : Option Addr) (c0 c1 n0 n1 : Nat) (a b : List ByteArray) (h0 : n0 = a.length) (h1 : n1 = b.length) (ha : Kd.C Kd.string w A0 a.length a) (hca : a.length ≤ c0) (hb : Kd.C Kd.string w A1 b.length b) (hcb : b.length ≤ c1) :
    Kd.C (Kd.slice 9 Kd.string) (w.alloc (.cells #[.slice A0 n0 c0, .slice A1 n1 c1] 22 (0, 0))) (some ⟨g, 0, none⟩) [a, b].length [a, b] := by
  subst h0
  subst h1
  refine Own.C_new1 (d := Kd.slice 9 Kd.string) rfl w g hg 22 (0, 0) [.slice A0 a.length c0, .slice A1 b.length c1] [a, b] rfl (by simp) (fun j p u hp hu => ?_)
  have hb2 := below_alloc (Below.refl w.heap.size w) (.cells #[.slice A0 a.length c0, .slice A1 b.length c1] 22 (0, 0))
  have hj : j < 2 := by have := (List.getElem?_eq_some_iff.1 hp).1; simpa using this
  rcases (show j = 0 ∨ j = 1 by omega) with rfl | rfl <;> simp at hp hu <;> subst hp <;> subst hu
  · exact ⟨A0, c0, rfl, hca, Kd.C_below ha hb2⟩
  · exact ⟨A1, c1, rfl, hcb, Kd.C_below hb hb2⟩
theorem new_one (w : World) (g : Nat) (hg : g = w.heap.size) (A0 : Option Addr) (c0 n0 : Nat) (a : List ByteArray) (h0 : n0 = a.length) (ha : Kd.C Kd.string w A0 a.length a) (hca : a.length ≤ c0) :
    Kd.C (Kd.slice 9 Kd.string) (w.alloc (.cells #[.slice A0 n0 c0] 22 (0, 0))) (some ⟨g, 0, none⟩) [a].length [a] := by
  subst h0
  refine Own.C_new1 (d := Kd.slice 9 Kd.string) rfl w g hg 22 (0, 0) [.slice A0 a.length c0] [a] rfl (by simp) (fun j p u hp hu => ?_)
  have hb2 := below_alloc (Below.refl w.heap.size w) (.cells #[.slice A0 a.length c0] 22 (0, 0))
  have hj : j < 1 := by have := (List.getElem?_eq_some_iff.1 hp).1; simpa using this
  obtain rfl : j = 0 := by omega
  simp at hp hu
  subst hp
  subst hu
  exact ⟨A0, c0, rfl, hca, Kd.C_below ha hb2⟩
theorem size_at (w : World) (o : Obj) (n : Nat) (h : n = w.heap.size) : n + 1 = (w.alloc o).heap.size := by rw [h]; exact (Own.size_alloc _ _).symm
end Go.Proofs.Ytaejkbjepbifcaa.Da
