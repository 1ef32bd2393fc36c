import Derived.Test.YtfmkfnochjeleaaGreatDoorA2
namespace Go.Proofs.YtfmkfnochjeleaaGreatDoor
open Go.RowKit

theorem digs_get : ∀ (l : List UInt8) (i : Nat) (c : UInt8), i < digs l → l[i]? = some c → dg c = true
  | [], i, c, h, _ => absurd h (Nat.not_lt_zero _)
  | d :: l, i, c, h, hc => by
    simp only [digs] at h
    cases hd : dg d with
    | false => simp [hd] at h
    | true =>
      rw [hd, if_pos rfl] at h
      cases i with
      | zero => simp at hc; subst hc; exact hd
      | succ i => exact digs_get l i c (by omega) (by simpa using hc)

theorem mant_get (l : List UInt8) (i : Nat) (c : UInt8) (h : i < mant l) (hc : l[i]? = some c) : dg c = true ∨ nb c = 46 := by
  unfold mant at h
  cases hd : l.drop (digs l) with
  | nil => rw [hd] at h; exact .inl (digs_get l i c h hc)
  | cons e r =>
    rw [hd] at h
    simp only at h
    have hlow : i < digs l → dg c = true ∨ nb c = 46 := fun hi => .inl (digs_get l i c hi hc)
    by_cases h46 : (nb e == 46) = true
    · rw [if_pos h46] at h
      split at h
      · omega
      · by_cases h1 : i < digs l
        · exact hlow h1
        · have hget : (l.drop (digs l))[i - digs l]? = some c := by rw [List.getElem?_drop, show digs l + (i - digs l) = i by omega]; exact hc
          rw [hd] at hget
          by_cases h2 : i = digs l
          · rw [h2, Nat.sub_self] at hget
            simp at hget; subst hget
            exact .inr (by simpa using h46)
          · obtain ⟨q, hq⟩ : ∃ q, i - digs l = q + 1 := ⟨i - digs l - 1, by omega⟩
            rw [hq] at hget
            exact .inl (digs_get r q c (by omega) (by simpa using hget))
    · rw [if_neg h46] at h
      exact hlow h

/-- a decimal: all of it -/
def IsDec (l : List UInt8) : Prop := deci l = l.length ∧ l ≠ []

theorem dg_not_e {c : UInt8} (h : (nb c == 101 || nb c == 69) = true) (h2 : dg c = true ∨ nb c = 46 ∨ nb c = 43 ∨ nb c = 45) : False := by
  simp only [Bool.or_eq_true, beq_iff_eq, nb] at h
  simp only [dg, decide_eq_true_eq, nb] at h2
  omega

theorem isDec_mant {l : List UInt8} (h : IsDec l) : mant l ≠ 0 ∧ mant l + expo (l.drop (mant l)) = l.length := by
  obtain ⟨h1, h2⟩ := h
  unfold deci at h1
  by_cases h0 : mant l = 0
  · rw [if_pos h0] at h1
    exact absurd (List.eq_nil_of_length_eq_zero h1.symm) h2
  · rw [if_neg h0] at h1
    exact ⟨h0, h1⟩

/-- the exponent of a whole decimal -/
theorem expo_whole {c : UInt8} {r : List UInt8} (h : expo (c :: r) = r.length + 1) :
    (nb c == 101 || nb c == 69) = true ∧ ∃ d r', r = d :: r' ∧
      (((nb d == 43 || nb d == 45) = true ∧ r' ≠ [] ∧ digs r' = r'.length) ∨ ((nb d == 43 || nb d == 45) = false ∧ digs r = r.length)) := by
  simp only [expo] at h
  cases hE : (nb c == 101 || nb c == 69) with
  | false => rw [hE] at h; simp at h
  | true =>
    rw [hE, if_pos rfl] at h
    refine ⟨rfl, ?_⟩
    cases r with
    | nil => simp at h
    | cons d r' =>
      refine ⟨d, r', rfl, ?_⟩
      simp only [List.length_cons] at h
      cases hs : (nb d == 43 || nb d == 45) with
      | true =>
        rw [hs, if_pos rfl] at h
        left
        split at h
        · omega
        · refine ⟨rfl, ?_, by omega⟩
          rintro rfl
          simp [digs] at *
      | false =>
        rw [hs] at h
        simp only [Bool.false_eq_true, if_false] at h
        right
        split at h
        · omega
        · refine ⟨rfl, ?_⟩
          simp only [List.length_cons]; omega

theorem dec_exp {l : List UInt8} (h : IsDec l) {i : Nat} {c : UInt8} {r : List UInt8} (hc : l.drop i = c :: r) (he : (nb c == 101 || nb c == 69) = true) :
    ∃ d r', r = d :: r' ∧ ((nb d == 43 || nb d == 45) = true → r' ≠ []) := by
  obtain ⟨h0, h1⟩ := isDec_mant h
  have hget : l[i]? = some c := by
    have := congrArg (·[0]?) hc
    simpa using this
  have hil : i < l.length := (List.getElem?_eq_some_iff.1 hget).1
  have hmi : mant l ≤ i := by
    refine Nat.le_of_not_lt fun hlt => ?_
    rcases mant_get l i c hlt hget with h | h
    · exact dg_not_e he (.inl h)
    · exact dg_not_e he (.inr (.inl h))
  cases hd : l.drop (mant l) with
  | nil => have := congrArg List.length hd; simp at this; omega
  | cons c0 r0 =>
    have hlen : (l.drop (mant l)).length = r0.length + 1 := by rw [hd]; rfl
    rw [List.length_drop] at hlen
    rw [hd] at h1
    obtain ⟨_, d, r', hr, hor⟩ := expo_whole (c := c0) (r := r0) (by omega)
    by_cases him : i = mant l
    · rw [him] at hc
      rw [hd] at hc
      obtain ⟨rfl, rfl⟩ := List.cons.inj hc
      refine ⟨d, r', hr, fun hs => ?_⟩
      rcases hor with ⟨_, h2, _⟩ | ⟨h2, _⟩
      · exact h2
      · rw [h2] at hs; cases hs
    · exfalso
      have hg2 : (l.drop (mant l))[i - mant l]? = some c := by rw [List.getElem?_drop, show mant l + (i - mant l) = i by omega]; exact hget
      rw [hd] at hg2
      obtain ⟨q, hq⟩ : ∃ q, i - mant l = q + 1 := ⟨i - mant l - 1, by omega⟩
      rw [hq] at hg2
      have hg3 : r0[q]? = some c := by simpa using hg2
      rcases hor with ⟨h2, _, h3⟩ | ⟨_, h3⟩
      · rw [hr] at hg3
        cases q with
        | zero => 
          simp at hg3; subst hg3
          simp at h2
          exact dg_not_e he (by rcases h2 with h2 | h2 <;> simp [h2])
        | succ q =>
          have : r'[q]? = some c := by simpa using hg3
          have hq := (List.getElem?_eq_some_iff.1 this).1
          exact dg_not_e he (.inl (digs_get r' q c (by omega) this))
      · have hq := (List.getElem?_eq_some_iff.1 hg3).1
        exact dg_not_e he (.inl (digs_get r0 q c (by omega) hg3))

/-- a 0 ahead of another digit at the begin -/
def pad0 (l : List UInt8) : Prop := ∃ r, l.drop 0 = 48 :: r ∧ digs r ≠ 0
def PadPost (s : ByteArray) (w : World) (e : Ending) (w' : World) : Prop := w = w' ∧ ∃ b, e = .returned (.bool b) ∧ (b = false → ¬ pad0 s.data.toList)

set_option maxHeartbeats 4000000 in
theorem padded_any (s : ByteArray) (w : World) (hs : s.size ≤ 2000) (hd : IsDec s.data.toList) :
    Calls Tryz.prog 17 #[.string s] w (PadPost s w) := by
  have cE := digits_any (s.extract 1 s.size) w (by simp; omega)
  rw [Lib.extract_to_end] at cE
  obtain ⟨D, hD0⟩ : ∃ D, D = digs (s.data.toList.drop 1) := ⟨_, rfl⟩
  rw [← hD0] at cE
  have HCE := Lib.hid cE
  have HD := Lib.hid hD0
  have HDec := Lib.hid hd
  have hD1 : D ≤ 2000 := by rw [hD0]; refine Nat.le_trans (digs_le _) ?_; simp; omega
  clear cE hD0 hd
  go_enter Tryz.func17, Tryz.ntmps17
  by_cases hp : 0 < D ∧ (1 < s.size ∧ ∀ h : 0 < s.size, (nb s[0] == 48) = true)
  · obtain ⟨hDp, h1, h2⟩ := hp
    have h0 : 0 < s.size := by omega
    have h3 := h2 h0
    clear h2
    go_wp2_with (go_at_call 23; refine (HCE.out).mono ?_; rintro e w' ⟨rfl, rfl⟩)
    go_ret
    exact ⟨rfl, true, rfl, fun h => by cases h⟩
  · have hnp : Hid (¬ pad0 s.data.toList) := by
      rintro ⟨r, hr, hne⟩
      have h0 : 0 < s.size := by
        have := congrArg List.length hr
        simp at this; omega
      have h4 := drop_cons_of h0
      rw [h4] at hr
      obtain ⟨h5, h6⟩ := List.cons.inj hr
      have h7 := HD.out
      rw [show (1 : Nat) = 0 + 1 from rfl, h6] at h7
      refine hp ⟨by omega, ?_, fun _ => by rw [h5]; rfl⟩
      refine Nat.lt_of_not_le fun hle => hne ?_
      have : r = [] := by rw [← h6]; exact drop_all (by omega)
      rw [this]; rfl
    have HP := Lib.hid hp
    clear hp
    by_cases h1 : 1 < s.size
    · have h0 : 0 < s.size := by omega
      cases b0 : (nb s[0] == 48) with
      | true =>
        have hD0 : D = 0 := by
          have := HP.out
          refine Nat.eq_zero_of_not_pos fun h => this ⟨h, h1, fun _ => b0⟩
        have hD2 : ¬ (0 : Int) < (D : Int) := by omega
        clear hD0
        go_wp2_with (go_at_call 23; refine (HCE.out).mono ?_; rintro e w' ⟨rfl, rfl⟩)
        go_loop [3, 21] (fun _ iv => ∃ i : Nat, i ≤ s.size ∧ iv = .int .i64 i) (fun _ iv => s.size - (intOf iv).toNat)
        case atStart => exact ⟨0, Nat.zero_le _, rfl⟩
        case round =>
          obtain ⟨i, hi, rfl⟩ := hrel
          by_cases hlt : i < s.size
          · have HC := Lib.hid (drop_cons_of hlt)
            cases b1 : (nb s[i] == 101) with
            | true =>
              obtain ⟨d, r', hr, hsg⟩ := dec_exp HDec.out HC.out (by rw [b1]; rfl)
              have hi1 : i + 1 < s.size := by
                have := congrArg List.length hr
                simp at this; omega
              have hd2 := drop_cons_of hi1
              have hdd : s[i + 1] = d := by rw [hr] at hd2; exact ((List.cons.inj hd2).1).symm
              have hrr : s.data.toList.drop (i + 1 + 1) = r' := by rw [hr] at hd2; exact ((List.cons.inj hd2).2).symm
              rw [← hdd, ← hrr] at hsg
              have HSG := Lib.hid hsg
              clear hsg hdd hrr hd2 hr d r'
              cases b3 : (nb s[i + 1] == 43) with
              | true =>
                have hi2 : i + 1 + 1 < s.size := by
                  refine Nat.lt_of_not_le fun hle => HSG.out (by rw [b3]; rfl) (drop_all hle)
                go_wp2
                all_goals
                  go_ret
                  exact ⟨rfl, _, rfl, fun _ => hnp.out⟩
              | false =>
                cases b4 : (nb s[i + 1] == 45) with
                | true =>
                  have hi2 : i + 1 + 1 < s.size := by
                    refine Nat.lt_of_not_le fun hle => HSG.out (by rw [b4]; simp) (drop_all hle)
                  go_wp2
                  all_goals
                    go_ret
                    exact ⟨rfl, _, rfl, fun _ => hnp.out⟩
                | false =>
                  go_wp2
                  all_goals
                    go_ret
                    exact ⟨rfl, _, rfl, fun _ => hnp.out⟩
            | false =>
              cases b2 : (nb s[i] == 69) with
              | true =>
                obtain ⟨d, r', hr, hsg⟩ := dec_exp HDec.out HC.out (by rw [b2]; simp)
                have hi1 : i + 1 < s.size := by
                  have := congrArg List.length hr
                  simp at this; omega
                have hd2 := drop_cons_of hi1
                have hdd : s[i + 1] = d := by rw [hr] at hd2; exact ((List.cons.inj hd2).1).symm
                have hrr : s.data.toList.drop (i + 1 + 1) = r' := by rw [hr] at hd2; exact ((List.cons.inj hd2).2).symm
                rw [← hdd, ← hrr] at hsg
                have HSG := Lib.hid hsg
                clear hsg hdd hrr hd2 hr d r'
                cases b3 : (nb s[i + 1] == 43) with
                | true =>
                  have hi2 : i + 1 + 1 < s.size := by
                    refine Nat.lt_of_not_le fun hle => HSG.out (by rw [b3]; rfl) (drop_all hle)
                  go_wp2
                  all_goals
                    go_ret
                    exact ⟨rfl, _, rfl, fun _ => hnp.out⟩
                | false =>
                  cases b4 : (nb s[i + 1] == 45) with
                  | true =>
                    have hi2 : i + 1 + 1 < s.size := by
                      refine Nat.lt_of_not_le fun hle => HSG.out (by rw [b4]; simp) (drop_all hle)
                    go_wp2
                    all_goals
                      go_ret
                      exact ⟨rfl, _, rfl, fun _ => hnp.out⟩
                  | false =>
                    go_wp2
                    all_goals
                      go_ret
                      exact ⟨rfl, _, rfl, fun _ => hnp.out⟩
              | false =>
                go_wp2
                go_round
                case rel => exact ⟨i + 1, by omega, by go_num⟩
                case measure => simp [intOf]; omega
          · go_wp2
            go_ret
            exact ⟨rfl, false, rfl, fun _ => hnp.out⟩
      | false =>
        go_wp2_with fail
        go_loop [3, 21] (fun _ iv => ∃ i : Nat, i ≤ s.size ∧ iv = .int .i64 i) (fun _ iv => s.size - (intOf iv).toNat)
        case atStart => exact ⟨0, Nat.zero_le _, rfl⟩
        case round =>
          obtain ⟨i, hi, rfl⟩ := hrel
          by_cases hlt : i < s.size
          · have HC := Lib.hid (drop_cons_of hlt)
            cases b1 : (nb s[i] == 101) with
            | true =>
              obtain ⟨d, r', hr, hsg⟩ := dec_exp HDec.out HC.out (by rw [b1]; rfl)
              have hi1 : i + 1 < s.size := by
                have := congrArg List.length hr
                simp at this; omega
              have hd2 := drop_cons_of hi1
              have hdd : s[i + 1] = d := by rw [hr] at hd2; exact ((List.cons.inj hd2).1).symm
              have hrr : s.data.toList.drop (i + 1 + 1) = r' := by rw [hr] at hd2; exact ((List.cons.inj hd2).2).symm
              rw [← hdd, ← hrr] at hsg
              have HSG := Lib.hid hsg
              clear hsg hdd hrr hd2 hr d r'
              cases b3 : (nb s[i + 1] == 43) with
              | true =>
                have hi2 : i + 1 + 1 < s.size := by
                  refine Nat.lt_of_not_le fun hle => HSG.out (by rw [b3]; rfl) (drop_all hle)
                go_wp2
                all_goals
                  go_ret
                  exact ⟨rfl, _, rfl, fun _ => hnp.out⟩
              | false =>
                cases b4 : (nb s[i + 1] == 45) with
                | true =>
                  have hi2 : i + 1 + 1 < s.size := by
                    refine Nat.lt_of_not_le fun hle => HSG.out (by rw [b4]; simp) (drop_all hle)
                  go_wp2
                  all_goals
                    go_ret
                    exact ⟨rfl, _, rfl, fun _ => hnp.out⟩
                | false =>
                  go_wp2
                  all_goals
                    go_ret
                    exact ⟨rfl, _, rfl, fun _ => hnp.out⟩
            | false =>
              cases b2 : (nb s[i] == 69) with
              | true =>
                obtain ⟨d, r', hr, hsg⟩ := dec_exp HDec.out HC.out (by rw [b2]; simp)
                have hi1 : i + 1 < s.size := by
                  have := congrArg List.length hr
                  simp at this; omega
                have hd2 := drop_cons_of hi1
                have hdd : s[i + 1] = d := by rw [hr] at hd2; exact ((List.cons.inj hd2).1).symm
                have hrr : s.data.toList.drop (i + 1 + 1) = r' := by rw [hr] at hd2; exact ((List.cons.inj hd2).2).symm
                rw [← hdd, ← hrr] at hsg
                have HSG := Lib.hid hsg
                clear hsg hdd hrr hd2 hr d r'
                cases b3 : (nb s[i + 1] == 43) with
                | true =>
                  have hi2 : i + 1 + 1 < s.size := by
                    refine Nat.lt_of_not_le fun hle => HSG.out (by rw [b3]; rfl) (drop_all hle)
                  go_wp2
                  all_goals
                    go_ret
                    exact ⟨rfl, _, rfl, fun _ => hnp.out⟩
                | false =>
                  cases b4 : (nb s[i + 1] == 45) with
                  | true =>
                    have hi2 : i + 1 + 1 < s.size := by
                      refine Nat.lt_of_not_le fun hle => HSG.out (by rw [b4]; simp) (drop_all hle)
                    go_wp2
                    all_goals
                      go_ret
                      exact ⟨rfl, _, rfl, fun _ => hnp.out⟩
                  | false =>
                    go_wp2
                    all_goals
                      go_ret
                      exact ⟨rfl, _, rfl, fun _ => hnp.out⟩
              | false =>
                go_wp2
                go_round
                case rel => exact ⟨i + 1, by omega, by go_num⟩
                case measure => simp [intOf]; omega
          · go_wp2
            go_ret
            exact ⟨rfl, false, rfl, fun _ => hnp.out⟩
    · go_wp2_with fail
      go_loop [3, 21] (fun _ iv => ∃ i : Nat, i ≤ s.size ∧ iv = .int .i64 i) (fun _ iv => s.size - (intOf iv).toNat)
      case atStart => exact ⟨0, Nat.zero_le _, rfl⟩
      case round =>
        obtain ⟨i, hi, rfl⟩ := hrel
        by_cases hlt : i < s.size
        · have HC := Lib.hid (drop_cons_of hlt)
          cases b1 : (nb s[i] == 101) with
          | true =>
            obtain ⟨d, r', hr, hsg⟩ := dec_exp HDec.out HC.out (by rw [b1]; rfl)
            have hi1 : i + 1 < s.size := by
              have := congrArg List.length hr
              simp at this; omega
            have hd2 := drop_cons_of hi1
            have hdd : s[i + 1] = d := by rw [hr] at hd2; exact ((List.cons.inj hd2).1).symm
            have hrr : s.data.toList.drop (i + 1 + 1) = r' := by rw [hr] at hd2; exact ((List.cons.inj hd2).2).symm
            rw [← hdd, ← hrr] at hsg
            have HSG := Lib.hid hsg
            clear hsg hdd hrr hd2 hr d r'
            cases b3 : (nb s[i + 1] == 43) with
            | true =>
              have hi2 : i + 1 + 1 < s.size := by
                refine Nat.lt_of_not_le fun hle => HSG.out (by rw [b3]; rfl) (drop_all hle)
              go_wp2
              all_goals
                go_ret
                exact ⟨rfl, _, rfl, fun _ => hnp.out⟩
            | false =>
              cases b4 : (nb s[i + 1] == 45) with
              | true =>
                have hi2 : i + 1 + 1 < s.size := by
                  refine Nat.lt_of_not_le fun hle => HSG.out (by rw [b4]; simp) (drop_all hle)
                go_wp2
                all_goals
                  go_ret
                  exact ⟨rfl, _, rfl, fun _ => hnp.out⟩
              | false =>
                go_wp2
                all_goals
                  go_ret
                  exact ⟨rfl, _, rfl, fun _ => hnp.out⟩
          | false =>
            cases b2 : (nb s[i] == 69) with
            | true =>
              obtain ⟨d, r', hr, hsg⟩ := dec_exp HDec.out HC.out (by rw [b2]; simp)
              have hi1 : i + 1 < s.size := by
                have := congrArg List.length hr
                simp at this; omega
              have hd2 := drop_cons_of hi1
              have hdd : s[i + 1] = d := by rw [hr] at hd2; exact ((List.cons.inj hd2).1).symm
              have hrr : s.data.toList.drop (i + 1 + 1) = r' := by rw [hr] at hd2; exact ((List.cons.inj hd2).2).symm
              rw [← hdd, ← hrr] at hsg
              have HSG := Lib.hid hsg
              clear hsg hdd hrr hd2 hr d r'
              cases b3 : (nb s[i + 1] == 43) with
              | true =>
                have hi2 : i + 1 + 1 < s.size := by
                  refine Nat.lt_of_not_le fun hle => HSG.out (by rw [b3]; rfl) (drop_all hle)
                go_wp2
                all_goals
                  go_ret
                  exact ⟨rfl, _, rfl, fun _ => hnp.out⟩
              | false =>
                cases b4 : (nb s[i + 1] == 45) with
                | true =>
                  have hi2 : i + 1 + 1 < s.size := by
                    refine Nat.lt_of_not_le fun hle => HSG.out (by rw [b4]; simp) (drop_all hle)
                  go_wp2
                  all_goals
                    go_ret
                    exact ⟨rfl, _, rfl, fun _ => hnp.out⟩
                | false =>
                  go_wp2
                  all_goals
                    go_ret
                    exact ⟨rfl, _, rfl, fun _ => hnp.out⟩
            | false =>
              go_wp2
              go_round
              case rel => exact ⟨i + 1, by omega, by go_num⟩
              case measure => simp [intOf]; omega
        · go_wp2
          go_ret
          exact ⟨rfl, false, rfl, fun _ => hnp.out⟩
end Go.Proofs.YtfmkfnochjeleaaGreatDoor
