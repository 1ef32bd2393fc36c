import Derived.Test.YtfmkfnochjeleaaGreatDoorS8
import Derived.Test.YtfmkfnochjeleaaGreatDoorA6
namespace Go.Proofs.YtfmkfnochjeleaaGreatDoor
open Go.RowKit

/-- what may stand behind a number or a word -/
def StopC (c : Int) : Prop := c = -1 ∨ c = 32 ∨ c = 9 ∨ c = 10 ∨ c = 13 ∨ c = 40 ∨ c = 41 ∨ c = 44
/-- an exponent at p up to e, or none -/
def ExpAt (T : ByteArray) (p e : Nat) : Prop :=
  ((chAt T p = 101 ∨ chAt T p = 69) ∧ (((chAt T (p + 1) = 43 ∨ chAt T (p + 1) = 45) ∧ 0 < dgAt T (p + 1 + 1) ∧ e = p + 1 + 1 + dgAt T (p + 1 + 1)) ∨
    ((chAt T (p + 1) ≠ 43 ∧ chAt T (p + 1) ≠ 45) ∧ 0 < dgAt T (p + 1) ∧ e = p + 1 + dgAt T (p + 1)))) ∨ (StopC (chAt T p) ∧ e = p)
/-- a mantissa at q up to p -/
def MantAt (T : ByteArray) (q p : Nat) : Prop :=
  (chAt T (q + dgAt T q) = 46 ∧ 0 < dgAt T q + dgAt T (q + dgAt T q + 1) ∧ p = q + dgAt T q + 1 + dgAt T (q + dgAt T q + 1)) ∨ (chAt T (q + dgAt T q) ≠ 46 ∧ 0 < dgAt T q ∧ p = q + dgAt T q)

theorem drop_at {T : ByteArray} (q : Nat) : (q < T.size ∧ ∃ c : UInt8, T.data.toList.drop q = c :: T.data.toList.drop (q + 1) ∧ chAt T q = nb c) ∨ (¬ q < T.size ∧ T.data.toList.drop q = [] ∧ chAt T q = -1) := by
  by_cases h : q < T.size
  · exact .inl ⟨h, T[q], drop_cons_of h, chAt_in h⟩
  · exact .inr ⟨h, drop_all (by omega), chAt_end T q h⟩

theorem mantAt_of {T : ByteArray} {q : Nat} (h : mant (T.data.toList.drop q) ≠ 0) : MantAt T q (q + mant (T.data.toList.drop q)) := by
  have e1 : (T.data.toList.drop q).drop (digs (T.data.toList.drop q)) = T.data.toList.drop (q + dgAt T q) := by rw [List.drop_drop]; rfl
  rcases drop_at (T := T) (q + dgAt T q) with ⟨_, c, hc, hch⟩ | ⟨_, hc, hch⟩
  · rw [hc] at e1
    by_cases h46 : nb c = 46
    · have hm := mant_dot (k := dgAt T (q + dgAt T q + 1)) rfl e1 (nb_eq h46) rfl
      have e2 : digs (T.data.toList.drop q) = dgAt T q := rfl
      rw [e2] at hm
      by_cases h0 : dgAt T q + dgAt T (q + dgAt T q + 1) = 0
      · rw [if_pos h0] at hm; exact absurd hm h
      · rw [if_neg h0] at hm
        rw [hm]
        exact .inl ⟨by rw [hch]; exact h46, by omega, by omega⟩
    · have hm := mant_no rfl e1 (nb_ne h46)
      have e2 : digs (T.data.toList.drop q) = dgAt T q := rfl
      rw [e2] at hm
      rw [hm] at h ⊢
      exact .inr ⟨by rw [hch]; exact h46, by omega, rfl⟩
  · rw [hc] at e1
    have hm := mant_nil rfl e1
    have e2 : digs (T.data.toList.drop q) = dgAt T q := rfl
    rw [e2] at hm
    rw [hm] at h ⊢
    exact .inr ⟨by rw [hch]; decide, by omega, rfl⟩

theorem expAt_of {T : ByteArray} {p : Nat} (h : StopC (chAt T (p + expo (T.data.toList.drop p)))) : ExpAt T p (p + expo (T.data.toList.drop p)) := by
  by_cases h0 : expo (T.data.toList.drop p) = 0
  · rw [h0] at h ⊢; exact .inr ⟨h, rfl⟩
  · refine .inl ?_
    clear h
    rcases drop_at (T := T) p with ⟨_, c, hc, hch⟩ | ⟨_, hc, hch⟩
    · rw [hc] at h0 ⊢
      cases he : (nb c == 101 || nb c == 69)
      · refine absurd ?_ h0
        rw [Bool.or_eq_false_iff] at he
        exact expo_no he.1 he.2
      · have hee : chAt T p = 101 ∨ chAt T p = 69 := by
          rw [hch]
          simpa only [Bool.or_eq_true, beq_iff_eq] using he
        refine ⟨hee, ?_⟩
        rcases drop_at (T := T) (p + 1) with ⟨_, d, hd, hdh⟩ | ⟨_, hd, hdh⟩
        · cases hs : (nb d == 43 || nb d == 45)
          · rw [Bool.or_eq_false_iff] at hs
            have hx := expo_plain hd he hs.1 hs.2 (dgAt T (p + 1)) (by rw [← hd]; rfl)
            rw [hx] at h0 ⊢
            by_cases hz : dgAt T (p + 1) = 0
            · rw [if_pos hz] at h0; exact absurd rfl h0
            · rw [if_neg hz]
              refine .inr ⟨⟨?_, ?_⟩, by omega, by omega⟩ <;> rw [hdh] <;> have := hs <;> simp only [beq_eq_false_iff_ne] at this
              · exact this.1
              · exact this.2
          · have hx := expo_sign hd he hs (dgAt T (p + 1 + 1)) rfl
            rw [hx] at h0 ⊢
            by_cases hz : dgAt T (p + 1 + 1) = 0
            · rw [if_pos hz] at h0; exact absurd rfl h0
            · rw [if_neg hz]
              refine .inl ⟨?_, by omega, by omega⟩
              rw [hdh]
              simpa only [Bool.or_eq_true, beq_iff_eq] using hs
        · exact absurd (expo_end _ hd) h0
    · rw [hc] at h0; exact absurd expo_nil h0

theorem numAt_of {T : ByteArray} {q n : Nat} (h : deci (T.data.toList.drop q) = n) (h0 : n ≠ 0) (hs : StopC (chAt T (q + n))) : ∃ p, MantAt T q p ∧ ExpAt T p (q + n) := by
  by_cases hm : mant (T.data.toList.drop q) = 0
  · rw [deci_0 hm] at h; exact absurd h.symm h0
  · have hd := deci_m (e := expo ((T.data.toList.drop q).drop (mant (T.data.toList.drop q)))) rfl hm rfl
    rw [h, List.drop_drop] at hd
    refine ⟨_, mantAt_of hm, ?_⟩
    rw [hd, ← Nat.add_assoc] at hs ⊢
    exact expAt_of hs

theorem stop_of {T : ByteArray} {q f : Nat} {ts : List Tok} (h : tks f (T.data.toList.drop q) true = some ts) : StopC (chAt T q) := by
  rcases drop_at (T := T) q with ⟨_, c, hc, hch⟩ | ⟨_, hc, hch⟩
  · rw [hc] at h
    rw [hch]
    cases f with
    | zero => cases h
    | succ f =>
      cases h1 : isWs c
      · cases h2 : isSign c
        · cases h3 : isLet c
          · rw [tks_num_bad h1 h2 h3 (.inr rfl)] at h; cases h
          · rw [tks_let_bad h1 h2 h3] at h; cases h
        · cases h3 : (nb c == 45)
          · unfold isSign at h2
            rw [h3] at h2
            simp only [Bool.or_eq_true, beq_iff_eq, Bool.or_false] at h2
            unfold StopC
            omega
          · rw [tks_sign_bad h1 h2 (by rw [h3]; rfl)] at h; cases h
      · unfold isWs at h1
        simp only [Bool.or_eq_true, beq_iff_eq] at h1
        unfold StopC
        omega
  · rw [hch]; exact .inl rfl

def WsI (c : Int) : Prop := c = 32 ∨ c = 9 ∨ c = 10 ∨ c = 13

/-- a token stands at q -/
def TkAt (T : ByteArray) (q : Nat) (t : Tok) : Prop :=
  (t.2.length = 1 ∧ (chAt T q = 40 ∨ chAt T q = 41 ∨ chAt T q = 44 ∨ chAt T q = 45)) ∨
  ((∀ i, i < t.2.length → isLetI (chAt T (q + i)) = true) ∧ StopC (chAt T (q + t.2.length))) ∨
  (t.1 = 49 ∧ (isDigI (chAt T q) = true ∨ chAt T q = 46) ∧ ∃ p, MantAt T q p ∧ ExpAt T p (q + t.2.length))

def LexStep (T : ByteArray) (q : Nat) (ts : List Tok) : Prop :=
  ∃ q1, q ≤ q1 ∧ (∀ i, q ≤ i → i < q1 → WsI (chAt T i)) ∧
    ((ts = [] ∧ q1 = T.size) ∨ ∃ t ts' f' j', ts = t :: ts' ∧ q1 < T.size ∧ t.2 = (T.data.toList.drop q1).take t.2.length ∧ 0 < t.2.length ∧ q1 + t.2.length ≤ T.size ∧ tks f' (T.data.toList.drop (q1 + t.2.length)) j' = some ts' ∧ TkAt T q1 t)

theorem LexStep.ws {T : ByteArray} {q : Nat} {ts : List Tok} (h : LexStep T (q + 1) ts) (hw : WsI (chAt T q)) : LexStep T q ts := by
  obtain ⟨q1, h1, h2, h3⟩ := h
  refine ⟨q1, by omega, fun i hi1 hi2 => ?_, h3⟩
  by_cases e : i = q
  · subst e; exact hw
  · exact h2 i (by omega) hi2

theorem isLetI_nb (c : UInt8) : isLetI (nb c) = isLet c := by
  unfold isLetI isLet
  rw [Bool.eq_iff_iff]
  simp only [Bool.and_eq_true, Bool.or_eq_true, decide_eq_true_eq]
  omega

theorem lets_at {T : ByteArray} : ∀ (n q : Nat), n ≤ lets (T.data.toList.drop q) → ∀ i, i < n → isLetI (chAt T (q + i)) = true
  | 0, _, _, i, hi => absurd hi (Nat.not_lt_zero i)
  | n + 1, q, h, i, hi => by
    rcases drop_at (T := T) q with ⟨_, c, hc, hch⟩ | ⟨_, hc, hch⟩
    · rw [hc] at h
      cases hl : isLet c
      · simp only [lets, hl, Bool.false_eq_true, if_false] at h
        omega
      · simp only [lets, hl, if_true] at h
        cases i with
        | zero => rw [Nat.add_zero, hch, isLetI_nb]; exact hl
        | succ i =>
          have := lets_at (T := T) n (q + 1) (by omega) i (by omega)
          rw [show q + (i + 1) = q + 1 + i by omega]; exact this
    · rw [hc] at h; simp only [lets] at h; omega

theorem drop_len (T : ByteArray) (q : Nat) : (T.data.toList.drop q).length = T.size - q := by rw [List.length_drop, size_toList]
theorem take_len {l : List UInt8} {n : Nat} (h : n ≤ l.length) : (l.take n).length = n := by rw [List.length_take]; omega

theorem lex_step {T : ByteArray} : ∀ (f q : Nat) (j : Bool) (ts : List Tok), q ≤ T.size → tks f (T.data.toList.drop q) j = some ts → LexStep T q ts
  | 0, q, j, ts, hq, h => by
    rcases drop_at (T := T) q with ⟨_, c, hc, hch⟩ | ⟨hn, hc, hch⟩
    · rw [hc] at h; cases h
    · rw [hc] at h
      have : ts = [] := by simpa [tks] using h.symm
      exact ⟨q, Nat.le_refl _, fun i h1 h2 => by omega, .inl ⟨this, by omega⟩⟩
  | f + 1, q, j, ts, hq, h => by
    rcases drop_at (T := T) q with ⟨hlt, c, hc, hch⟩ | ⟨hn, hc, hch⟩
    · have hlen := drop_len T q
      cases h1 : isWs c
      · refine ⟨q, Nat.le_refl _, fun i h1 h2 => by omega, .inr ?_⟩
        cases h2 : isSign c
        · cases h3 : isLet c
          · by_cases h4 : deci (c :: T.data.toList.drop (q + 1)) = 0 ∨ j = true
            · rw [hc, tks_num_bad h1 h2 h3 h4] at h; cases h
            · rw [hc, tks_num h1 h2 h3 h4, ← hc] at h
              rw [← hc] at h4
              have hd0 : deci (T.data.toList.drop q) ≠ 0 := fun e => h4 (.inl e)
              have hle := deci_le (T.data.toList.drop q)
              cases hr : tks f ((T.data.toList.drop q).drop (deci (T.data.toList.drop q))) true with
              | none => rw [hr] at h; cases h
              | some ts' =>
                rw [hr] at h
                have e : ts = (49, (T.data.toList.drop q).take (deci (T.data.toList.drop q))) :: ts' := by simpa using h.symm
                have hl := take_len hle
                rw [List.drop_drop] at hr
                refine ⟨_, ts', f, true, e, hlt, ?_, ?_, ?_, ?_, .inr (.inr ⟨rfl, ?_, ?_⟩)⟩
                · simp only [hl]
                · simp only [hl]; omega
                · simp only [hl]; omega
                · simp only [hl]; exact hr
                · rw [hch, isDigI_nb]
                  cases hd : dg c
                  · right
                    by_cases h46 : nb c = 46
                    · exact h46
                    · refine absurd ?_ hd0
                      have hm := mant_no (l := T.data.toList.drop q) (n := 0) (c := c) (r := T.data.toList.drop (q + 1)) (by rw [hc]; simp only [digs, hd]; rfl) (by rw [List.drop_zero]; exact hc) (nb_ne h46)
                      exact deci_0 hm
                  · exact .inl rfl
                · simp only [hl]
                  exact numAt_of rfl hd0 (stop_of hr)
          · cases j
            · rw [hc, tks_let h1 h2 h3, ← hc] at h
              have hle := lets_le (T.data.toList.drop q)
              have hpos : 0 < lets (T.data.toList.drop q) := by rw [hc]; exact lets_pos h3
              cases hr : tks f ((T.data.toList.drop q).drop (lets (T.data.toList.drop q))) true with
              | none => rw [hr] at h; cases h
              | some ts' =>
                rw [hr] at h
                have e : ts = (97, (T.data.toList.drop q).take (lets (T.data.toList.drop q))) :: ts' := by simpa using h.symm
                have hl := take_len hle
                rw [List.drop_drop] at hr
                refine ⟨_, ts', f, true, e, hlt, ?_, ?_, ?_, ?_, .inr (.inl ⟨?_, ?_⟩)⟩
                · simp only [hl]
                · simp only [hl]; omega
                · simp only [hl]; omega
                · simp only [hl]; exact hr
                · simp only [hl]; exact lets_at _ q (Nat.le_refl _)
                · simp only [hl]; exact stop_of hr
            · rw [hc, tks_let_bad h1 h2 h3] at h; cases h
        · cases h3 : (nb c == 45 && j)
          · rw [hc, tks_sign h1 h2 h3] at h
            cases hr : tks f (T.data.toList.drop (q + 1)) false with
            | none => rw [hr] at h; cases h
            | some ts' =>
              rw [hr] at h
              have e : ts = (c, [c]) :: ts' := by simpa using h.symm
              refine ⟨_, ts', f, false, e, hlt, ?_, Nat.zero_lt_one, hlt, hr, .inl ⟨rfl, ?_⟩⟩
              · rw [hc]; rfl
              · rw [hch]
                unfold isSign at h2
                simp only [Bool.or_eq_true, beq_iff_eq] at h2
                exact h2
          · rw [hc, tks_sign_bad h1 h2 h3] at h; cases h
      · rw [hc, tks_ws h1] at h
        refine (lex_step f (q + 1) false ts hlt h).ws ?_
        rw [hch]
        unfold isWs at h1
        simp only [Bool.or_eq_true, beq_iff_eq] at h1
        exact h1
    · rw [hc] at h
      have : ts = [] := by simpa [tks] using h.symm
      exact ⟨q, Nat.le_refl _, fun i h1 h2 => by omega, .inl ⟨this, by omega⟩⟩

/-- a number that is not padded -/
theorem unpad_at {T : ByteArray} {q n : Nat} (hd : deci (T.data.toList.drop q) = n) (hp : ¬ pad0 ((T.data.toList.drop q).take n)) (h48 : chAt T q = 48) : isDigI (chAt T (q + 1)) = false := by
  refine Bool.eq_false_iff.2 fun hdg => hp ?_
  rcases drop_at (T := T) q with ⟨hlt, c, hc, hch⟩ | ⟨hn, hc, hch⟩
  · rw [hch] at h48
    have hc48 : c = 48 := by
      apply UInt8.toNat_inj.1
      have : (c.toNat : Int) = 48 := h48
      show c.toNat = 48
      omega
    subst hc48
    have h2 : digs (T.data.toList.drop (q + 1)) ≠ 0 := by
      have := dgAt_succ hdg
      unfold dgAt at this
      omega
    have hdq : digs (T.data.toList.drop q) = digs (T.data.toList.drop (q + 1)) + 1 := by
      rw [hc]
      simp only [digs]
      rw [if_pos (by decide)]
    have hn2 : 2 ≤ n := by
      have hm : digs (T.data.toList.drop q) ≤ mant (T.data.toList.drop q) := by
        unfold mant
        split
        · exact Nat.le_refl _
        · split
          · split <;> omega
          · exact Nat.le_refl _
      have : mant (T.data.toList.drop q) ≤ deci (T.data.toList.drop q) := by
        unfold deci
        split <;> omega
      omega
    obtain ⟨k, rfl⟩ : ∃ k, n = k + 1 := ⟨n - 1, by omega⟩
    refine ⟨(T.data.toList.drop (q + 1)).take k, by rw [hc]; rfl, ?_⟩
    rw [digs_take]
    omega
  · rw [hch] at h48; cases h48

end Go.Proofs.YtfmkfnochjeleaaGreatDoor
