import Derived.Test.YtfmkfnochjeleaaGreatDoorA3
namespace Go.Proofs.YtfmkfnochjeleaaGreatDoor
open Go.RowKit

theorem digs_take : ∀ (l : List UInt8) (k : Nat), digs (l.take k) = min (digs l) k
  | [], k => by simp [digs]
  | c :: l, 0 => by simp [digs]
  | c :: l, k + 1 => by
    simp only [List.take_succ_cons, digs, digs_take l k]
    split <;> omega

theorem mant_take (l : List UInt8) (k : Nat) (h : mant l ≤ k) : mant (l.take k) = mant l := by
  have hdl := digs_le l
  cases hd : l.drop (digs l) with
  | nil =>
    have hlen : l.length ≤ digs l := by
      have := congrArg List.length hd; simp at this; omega
    have hm : mant l = digs l := by unfold mant; rw [hd]
    rw [List.take_of_length_le (by omega)]
  | cons c r =>
    have hc : (l.take k).drop (digs l) = (c :: r).take (k - digs l) := by rw [← hd, List.drop_take]
    cases h46 : (nb c == 46) with
    | false =>
      have hm : mant l = digs l := mant_no rfl hd h46
      rw [hm] at h ⊢
      have hdt : digs (l.take k) = digs l := by rw [digs_take]; omega
      cases hk : k - digs l with
      | zero => rw [hk] at hc; exact (mant_nil hdt.symm (by rw [hc]; rfl))
      | succ q => rw [hk, List.take_succ_cons] at hc; exact (mant_no hdt.symm hc h46)
    | true =>
      have hm : mant l = if digs l + digs r = 0 then 0 else digs l + (1 + digs r) := mant_dot rfl hd h46 rfl
      by_cases h0 : digs l + digs r = 0
      · rw [if_pos h0] at hm
        rw [hm]
        have hdt : digs (l.take k) = 0 := by rw [digs_take]; omega
        have e0 : digs l = 0 := by omega
        rw [e0] at hc
        cases hk : k - 0 with
        | zero => rw [hk] at hc; exact mant_nil hdt.symm (by rw [hc]; rfl)
        | succ q =>
          rw [hk, List.take_succ_cons] at hc
          rw [mant_dot hdt.symm hc h46 rfl, digs_take]
          rw [if_pos (by omega)]
      · rw [if_neg h0] at hm
        rw [hm] at h ⊢
        have hdt : digs (l.take k) = digs l := by rw [digs_take]; omega
        obtain ⟨q, hq⟩ : ∃ q, k - digs l = q + 1 := ⟨k - digs l - 1, by omega⟩
        rw [hq, List.take_succ_cons] at hc
        rw [mant_dot hdt.symm hc h46 rfl, digs_take, show min (digs r) q = digs r by omega, if_neg h0]

theorem expo_take (l : List UInt8) : expo (l.take (expo l)) = expo l := by
  cases l with
  | nil => rfl
  | cons c r =>
    cases hE : (nb c == 101 || nb c == 69) with
    | false =>
      have : expo (c :: r) = 0 := by simp only [expo, hE, Bool.false_eq_true, if_false]
      rw [this]; rfl
    | true =>
      cases r with
      | nil => rw [expo_end [] rfl]; rfl
      | cons d r' =>
        cases hs : (nb d == 43 || nb d == 45) with
        | true =>
          have h1 := expo_sign (c := c) (d := d) (r := d :: r') (r' := r') rfl hE hs (digs r') rfl
          by_cases h0 : digs r' = 0
          · rw [if_pos h0] at h1; rw [h1]; rfl
          · rw [if_neg h0] at h1
            rw [h1, show 2 + digs r' = digs r' + 1 + 1 by omega, List.take_succ_cons, List.take_succ_cons]
            rw [expo_sign (d := d) (r' := r'.take (digs r')) rfl hE hs (digs r') (by rw [digs_take]; omega), if_neg h0]; omega
        | false =>
          simp only [Bool.or_eq_false_iff] at hs
          have h1 := expo_plain (c := c) (d := d) (r := d :: r') (r' := r') rfl hE hs.1 hs.2 (digs (d :: r')) rfl
          by_cases h0 : digs (d :: r') = 0
          · rw [if_pos h0] at h1; rw [h1]; rfl
          · rw [if_neg h0] at h1
            obtain ⟨q, hq⟩ : ∃ q, digs (d :: r') = q + 1 := ⟨digs (d :: r') - 1, by omega⟩
            rw [h1, show 1 + digs (d :: r') = digs (d :: r') + 1 by omega, List.take_succ_cons]
            have h2 : (d :: r').take (digs (d :: r')) = d :: r'.take q := by rw [hq, List.take_succ_cons]
            rw [expo_plain h2 hE hs.1 hs.2 (digs (d :: r')) (by rw [← h2, digs_take]; omega), if_neg h0]; omega

theorem deci_take (l : List UInt8) : deci (l.take (deci l)) = deci l := by
  by_cases h0 : mant l = 0
  · rw [deci_0 h0]; rfl
  · have h1 : deci l = mant l + expo (l.drop (mant l)) := deci_m rfl h0 rfl
    have hm : mant (l.take (deci l)) = mant l := mant_take l _ (by omega)
    rw [deci_m hm h0 rfl, List.drop_take, show deci l - mant l = expo (l.drop (mant l)) by omega, expo_take]; omega

theorem isDec_take (l : List UInt8) (h : deci l ≠ 0) : IsDec (l.take (deci l)) := by
  have h1 := deci_le l
  refine ⟨?_, fun he => h ?_⟩
  · rw [deci_take, List.length_take]; omega
  · have := congrArg List.length he
    rw [List.length_take] at this
    simp at this
    rcases this with h | h
    · exact h
    · subst h; rfl

/-- what a token is -/
def TokOK (n : Nat) (t : Tok) : Prop := t.2.length ≤ n ∧ (t.1 = 49 → IsDec t.2)
theorem TokOK.mono {n m : Nat} {t : Tok} (h : TokOK n t) (hnm : n ≤ m) : TokOK m t := ⟨Nat.le_trans h.1 hnm, h.2⟩

theorem tks_ok : ∀ (f : Nat) (l : List UInt8) (j : Bool) (ts : List Tok), tks f l j = some ts → ∀ t ∈ ts, TokOK l.length t
  | 0, [], _, ts, h => by simp [tks] at h; subst h; simp
  | f + 1, [], _, ts, h => by simp [tks] at h; subst h; simp
  | 0, c :: r, _, ts, h => by simp [tks] at h
  | f + 1, c :: r, j, ts, h => by
    cases hws : isWs c with
    | true =>
      rw [tks_ws hws] at h
      exact fun t ht => (tks_ok f r false ts h t ht).mono (by simp)
    | false =>
      cases hsg : isSign c with
      | true =>
        cases h3 : (nb c == 45 && j) with
        | true => rw [tks_sign_bad hws hsg h3] at h; cases h
        | false =>
          rw [tks_sign hws hsg h3] at h
          obtain ⟨ts', h', rfl⟩ := Option.map_eq_some_iff.1 h
          intro t ht
          rcases List.mem_cons.1 ht with rfl | ht
          · refine ⟨by simp, fun h49 => ?_⟩
            exfalso
            have h49' : c = 49 := h49
            subst h49'
            revert hsg; decide
          · exact (tks_ok f r false ts' h' t ht).mono (by simp)
      | false =>
        cases hlt : isLet c with
        | true =>
          cases j with
          | true => rw [tks_let_bad hws hsg hlt] at h; cases h
          | false =>
            rw [tks_let hws hsg hlt] at h
            obtain ⟨ts', h', rfl⟩ := Option.map_eq_some_iff.1 h
            intro t ht
            rcases List.mem_cons.1 ht with rfl | ht
            · exact ⟨by rw [List.length_take]; omega, fun h49 => by cases h49⟩
            · exact (tks_ok f _ true ts' h' t ht).mono (by rw [List.length_drop]; omega)
        | false =>
          by_cases h4 : deci (c :: r) = 0 ∨ j = true
          · rw [tks_num_bad hws hsg hlt h4] at h; cases h
          · rw [tks_num hws hsg hlt h4] at h
            obtain ⟨ts', h', rfl⟩ := Option.map_eq_some_iff.1 h
            intro t ht
            rcases List.mem_cons.1 ht with rfl | ht
            · exact ⟨by rw [List.length_take]; omega, fun _ => isDec_take _ (fun e => h4 (.inl e))⟩
            · exact (tks_ok f _ true ts' h' t ht).mono (by rw [List.length_drop]; omega)

theorem lets_pos {c : UInt8} {r : List UInt8} (h : isLet c = true) : 0 < lets (c :: r) := by simp only [lets, h, if_true]; omega
theorem tks_len : ∀ (f : Nat) (l : List UInt8) (j : Bool) (ts : List Tok), tks f l j = some ts → ts.length ≤ l.length
  | 0, [], _, ts, h => by simp [tks] at h; subst h; simp
  | f + 1, [], _, ts, h => by simp [tks] at h; subst h; simp
  | 0, c :: r, _, ts, h => by simp [tks] at h
  | f + 1, c :: r, j, ts, h => by
    cases hws : isWs c with
    | true =>
      rw [tks_ws hws] at h
      have := tks_len f r false ts h
      simp only [List.length_cons]; omega
    | false =>
      cases hsg : isSign c with
      | true =>
        cases h3 : (nb c == 45 && j) with
        | true => rw [tks_sign_bad hws hsg h3] at h; cases h
        | false =>
          rw [tks_sign hws hsg h3] at h
          obtain ⟨ts', h', rfl⟩ := Option.map_eq_some_iff.1 h
          have := tks_len f r false ts' h'
          simp only [List.length_cons]; omega
      | false =>
        cases hlt : isLet c with
        | true =>
          cases j with
          | true => rw [tks_let_bad hws hsg hlt] at h; cases h
          | false =>
            rw [tks_let hws hsg hlt] at h
            obtain ⟨ts', h', rfl⟩ := Option.map_eq_some_iff.1 h
            have h1 := tks_len f _ true ts' h'
            have h2 := lets_pos (r := r) hlt
            have h3 := lets_le (c :: r)
            rw [List.length_drop] at h1
            simp only [List.length_cons] at *; omega
        | false =>
          by_cases h4 : deci (c :: r) = 0 ∨ j = true
          · rw [tks_num_bad hws hsg hlt h4] at h; cases h
          · rw [tks_num hws hsg hlt h4] at h
            obtain ⟨ts', h', rfl⟩ := Option.map_eq_some_iff.1 h
            have h1 := tks_len f _ true ts' h'
            have h2 : deci (c :: r) ≠ 0 := fun e => h4 (.inl e)
            have h3 := deci_le (c :: r)
            rw [List.length_drop] at h1
            simp only [List.length_cons] at *; omega

/-- how a row of tokens lies -/
theorem toks_at {w : World} {base : Nat} {v : Value} {ts : List Tok} (h : w.ownsRow base 50 2 v ts.length (tokCells ts)) :
    (v = .slice none 0 0 ∧ ts = []) ∨ ∃ g cap, v = .slice (some ⟨g, 0, none⟩) ts.length cap ∧ base ≤ g ∧ g < w.heap.size ∧ ts.length ≤ cap ∧ cap ≤ maxLen ∧
      ∀ i (hi : i < ts.length), w.cell? ⟨g, i * 2, none⟩ = some (.int .u8 (nb ts[i].1)) ∧ w.cell? ⟨g, i * 2 + 1, none⟩ = some (.string ⟨ts[i].2.toArray⟩) := by
  rcases h.2 with ⟨h1, h2⟩ | ⟨g, cap, cur, h1, h2, h3, h4, h5, h6, h7⟩
  · exact .inl ⟨h1, List.eq_nil_of_length_eq_zero h2⟩
  · refine .inr ⟨g, cap, h1, h2, (Array.getElem?_eq_some_iff.1 h3).1, h4, h5, fun i hi => ?_⟩
    have key : ∀ (ts : List Tok) (i : Nat) (hi : i < ts.length), (tokCells ts)[i * 2]? = some (.int .u8 (nb ts[i].1)) ∧ (tokCells ts)[i * 2 + 1]? = some (.string ⟨ts[i].2.toArray⟩) := by
      intro ts
      induction ts with
      | nil => intro i hi; simp at hi
      | cons t ts ih =>
        intro i hi
        have e : tokCells (t :: ts) = .int .u8 (nb t.1) :: .string ⟨t.2.toArray⟩ :: tokCells ts := by simp [tokCells, tokCell]
        rw [e]
        cases i with
        | zero => exact ⟨rfl, rfl⟩
        | succ i =>
          have := ih i (by simpa using hi)
          rw [show (i + 1) * 2 = i * 2 + 1 + 1 by omega]
          simpa using this
    have hk := key ts i hi
    have add : ∀ j, (⟨g, 0, none⟩ : Addr).add j = ⟨g, j, none⟩ := fun j => by unfold Addr.add; split <;> simp_all
    have hc := h.cells (g := g) (by rw [h1]; rfl)
    have c1 := hc _ _ hk.1
    have c2 := hc _ _ hk.2
    rw [add] at c1 c2
    exact ⟨c1, c2⟩
end Go.Proofs.YtfmkfnochjeleaaGreatDoor
