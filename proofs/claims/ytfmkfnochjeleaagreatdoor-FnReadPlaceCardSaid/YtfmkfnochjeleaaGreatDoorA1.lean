import Derived.Test.YtfmkfnochjeleaaGreatDoorProg
import Derived.WalkKit
import Derived.WalkSpells
import Derived.WalkLawsBesides
import Derived.Lib.Hide
import Derived.Lib.IndexBytes
import Derived.Deep.DeepCutAuto
namespace Go.Proofs.YtfmkfnochjeleaaGreatDoor
open Go.RowKit

/-- a byte's number -/
abbrev nb (c : UInt8) : Int := (c.toNat : Int)
/-- a decimal digit -/
def dg (c : UInt8) : Bool := decide (48 ≤ c.toNat ∧ c.toNat ≤ 57)
/-- how many digits stand at the head -/
def digs : List UInt8 → Nat
  | [] => 0
  | c :: l => if dg c then digs l + 1 else 0
theorem digs_le : ∀ l, digs l ≤ l.length
  | [] => Nat.le_refl _
  | c :: l => by have := digs_le l; simp only [digs, List.length_cons]; split <;> omega
theorem drop_cons_of {s : ByteArray} {k : Nat} (h : k < s.size) : s.data.toList.drop k = s[k] :: s.data.toList.drop (k + 1) := by
  rw [List.drop_eq_getElem_cons (by simpa using h)]; rfl
theorem drop_all {s : ByteArray} {k : Nat} (h : s.size ≤ k) : s.data.toList.drop k = [] := List.drop_of_length_le (by simpa using h)
theorem ret_i {k : IntKind} {a b : Int} (h : a = b) : Ending.returned (.int k a) = .returned (.int k b) := by rw [h]
theorem size_toList (s : ByteArray) : s.data.toList.length = s.size := by simp

set_option maxHeartbeats 400000 in
theorem digits_any (s : ByteArray) (w : World) (hs : s.size ≤ 1000000000000) :
    Calls Tryz.prog 23 #[.string s] w fun e w' => e = .returned (.int .i64 (digs s.data.toList)) ∧ w = w' := by
  go_enter Tryz.func23, Tryz.ntmps23
  go_wp2
  go_loop [3] (fun n => ∃ k : Nat, k ≤ s.size ∧ n = .int .i64 k ∧ Hid (digs s.data.toList = k + digs (s.data.toList.drop k))) (fun n => s.size - (intOf n).toNat)
  case atStart => exact ⟨0, Nat.zero_le _, rfl, by simp [Hid]⟩
  case round =>
    obtain ⟨k, hk, rfl, hd⟩ := hrel
    by_cases hlt : k < s.size
    · have HC := Lib.hid (drop_cons_of hlt)
      go_wp2
      · go_round
        case rel => 
          refine ⟨k + 1, by omega, by go_num, ?_⟩
          have h1 : dg s[k] = true := by unfold dg; simp; omega
          have := hd.out
          rw [HC.out] at this
          simp only [digs, h1, if_true] at this
          show _ = _
          omega
        case measure => simp [intOf]; omega
      all_goals
        go_ret
        refine ⟨ret_i ?_, rfl⟩
        have h1 : dg s[k] = false := by unfold dg; simp; omega
        have := hd.out
        rw [HC.out] at this
        simp only [digs, h1, Bool.false_eq_true, if_false] at this
        omega
    · go_wp2
      go_ret
      refine ⟨ret_i ?_, rfl⟩
      have := hd.out
      rw [drop_all (by omega)] at this
      simp only [digs] at this
      omega


/-- how long an exponent at the head is -/
def expo : List UInt8 → Nat
  | [] => 0
  | c :: r => if (nb c == 101 || nb c == 69) then
      (match r with
        | [] => 0
        | d :: r' => if (nb d == 43 || nb d == 45) then (if digs r' = 0 then 0 else 2 + digs r') else (if digs (d :: r') = 0 then 0 else 1 + digs (d :: r')))
    else 0
/-- how long a mantissa at the head is -/
def mant (l : List UInt8) : Nat :=
  match l.drop (digs l) with
  | [] => digs l
  | c :: r => if nb c == 46 then (if digs l + digs r = 0 then 0 else digs l + (1 + digs r)) else digs l
def deci (l : List UInt8) : Nat := if mant l = 0 then 0 else mant l + expo (l.drop (mant l))
theorem nb_eq {c : UInt8} {n : Int} (h : nb c = n) : (nb c == n) = true := by simp [h]
theorem nb_ne {c : UInt8} {n : Int} (h : ¬ nb c = n) : (nb c == n) = false := by simpa using h
theorem expo_nil : expo [] = 0 := rfl
theorem expo_no {c : UInt8} {r : List UInt8} (h1 : (nb c == 101) = false) (h2 : (nb c == 69) = false) : expo (c :: r) = 0 := by simp only [expo, h1, h2]; rfl
theorem expo_end {c : UInt8} (r : List UInt8) (hr : r = []) : expo (c :: r) = 0 := by subst hr; simp [expo]
theorem expo_sign {c d : UInt8} {r r' : List UInt8} (hr : r = d :: r') (h : (nb c == 101 || nb c == 69) = true) (h2 : (nb d == 43 || nb d == 45) = true) (j : Nat) (hj : j = digs r') :
    expo (c :: r) = if j = 0 then 0 else 2 + j := by subst hr hj; simp only [expo, h, h2, if_true]
theorem expo_plain {c d : UInt8} {r r' : List UInt8} (hr : r = d :: r') (h : (nb c == 101 || nb c == 69) = true) (h2 : (nb d == 43) = false) (h3 : (nb d == 45) = false) (j : Nat) (hj : j = digs (d :: r')) :
    expo (c :: r) = if j = 0 then 0 else 1 + j := by subst hr hj; simp only [expo, h, h2, h3, if_true, Bool.or_false, Bool.false_eq_true, if_false]
theorem mant_nil {l : List UInt8} {n : Nat} (hn : n = digs l) (h : l.drop n = []) : mant l = n := by subst hn; unfold mant; rw [h]
theorem mant_no {l : List UInt8} {n : Nat} {c r} (hn : n = digs l) (h : l.drop n = c :: r) (h2 : (nb c == 46) = false) : mant l = n := by subst hn; unfold mant; rw [h]; simp only [h2, Bool.false_eq_true, if_false]
theorem mant_dot {l : List UInt8} {n k : Nat} {c r} (hn : n = digs l) (h : l.drop n = c :: r) (h2 : (nb c == 46) = true) (hk : k = digs r) : mant l = if n + k = 0 then 0 else n + (1 + k) := by
  subst hn hk; unfold mant; rw [h]; simp only [h2, if_true]
theorem deci_0 {l : List UInt8} (h : mant l = 0) : deci l = 0 := by unfold deci; rw [if_pos h]
theorem deci_m {l : List UInt8} {m e : Nat} (h : mant l = m) (h0 : ¬ m = 0) (he : expo (l.drop m) = e) : deci l = m + e := by unfold deci; rw [h, if_neg h0, he]

set_option maxHeartbeats 4000000 in
theorem decimal_any (s : ByteArray) (w : World) (hs : s.size ≤ 1000000000000) :
    Calls Tryz.prog 22 #[.string s] w fun e w' => e = .returned (.int .i64 (deci s.data.toList)) ∧ w = w' := by
  have hn := digs_le s.data.toList
  rw [size_toList] at hn
  obtain ⟨n, hn0⟩ : ∃ n, n = digs s.data.toList := ⟨_, rfl⟩
  have cD := digits_any s w hs
  rw [← hn0] at cD hn
  have HD := Lib.hid hn0
  clear hn0
  have HcE : Hid (∀ k j, j = digs (s.data.toList.drop k) → Calls Tryz.prog 23 #[.string (s.extract k s.size)] w fun e w' => e = .returned (.int .i64 j) ∧ w = w') := fun k j hj => by
    have := digits_any (s.extract k s.size) w (by simp; omega)
    rw [Lib.extract_to_end] at this
    rw [hj]; exact this
  go_enter Tryz.func22, Tryz.ntmps22
  go_wp2_with fail
  refine cD.mono ?_
  rintro e w' ⟨rfl, rfl⟩
  clear cD
  by_cases h1 : n < s.size
  · have HC := Lib.hid (drop_cons_of h1)
    obtain ⟨b0, e0⟩ : ∃ b, (nb s[n] == 46) = b := ⟨_, rfl⟩
    cases b0
    · have HM' := Lib.hid (mant_no HD.out HC.out e0)
      have hm2 : n ≤ s.size := by omega
      by_cases hm3 : n = 0
      · have hm0b : ((n : Int) == 0) = true := by simp; omega
        have HX := Lib.hid (deci_0 (HM'.out.trans hm3))
        clear hm3
        go_wp2_with fail
        go_ret
        exact ⟨ret_i (by rw [HX.out]; rfl), rfl⟩
      · go_upto_region 8 with fail
        clear e0
        have hm0b : ((n : Int) == 0) = false := by simp; omega
        by_cases g1 : n < s.size
        · have HG := Lib.hid (drop_cons_of g1)
          obtain ⟨b1, e1⟩ : ∃ b, (nb s[n] == 101) = b := ⟨_, rfl⟩
          obtain ⟨b2, e2⟩ : ∃ b, (nb s[n] == 69) = b := ⟨_, rfl⟩
          by_cases hb : (b1 || b2) = true
          · by_cases g2 : n + 1 < s.size
            · have HG2 := Lib.hid (drop_cons_of g2)
              obtain ⟨b3, e3⟩ : ∃ b, (nb s[n + 1] == 43) = b := ⟨_, rfl⟩
              obtain ⟨b4, e4⟩ : ∃ b, (nb s[n + 1] == 45) = b := ⟨_, rfl⟩
              by_cases hb' : (b3 || b4) = true
              · obtain ⟨j, hj0⟩ : ∃ j, j = digs (s.data.toList.drop (n + 1 + 1)) := ⟨_, rfl⟩
                have HJ := Lib.hid (HcE.out (n + 1 + 1) j hj0)
                have hj : j ≤ s.size := by rw [hj0]; refine Nat.le_trans (digs_le _) ?_; simp
                have HX : Hid (expo (s.data.toList.drop n) = if j = 0 then 0 else 2 + j) := by
                  show _ = _
                  rw [HG.out]
                  exact expo_sign HG2.out (by rw [e1, e2]; exact hb) (by rw [e3, e4]; exact hb') j hj0
                have HX2 := Lib.hid (deci_m HM'.out hm3 HX.out)
                clear HX hj0
                by_cases hj1 : j = 0
                · have HX3 : Hid (deci s.data.toList = n) := by have := HX2.out; rwa [if_pos hj1] at this
                  clear HX2
                  have hj2 : ¬ (0 : Int) < j := by omega
                  cases b1 <;> cases b2 <;> cases b3 <;> cases b4 <;> first | (simp at hb; done) | (simp at hb'; done) | skip
                  all_goals
                    clear hb hb' hj1
                    go_wp2_with (go_at_call 23; refine (HJ.out).mono ?_; rintro e w' ⟨rfl, rfl⟩)
                    go_ret
                    exact ⟨ret_i (by rw [HX3.out]), rfl⟩
                · have HX3 : Hid (deci s.data.toList = n + (2 + j)) := by have := HX2.out; rwa [if_neg hj1] at this
                  clear HX2
                  have hj2 : (0 : Int) < j := by omega
                  cases b1 <;> cases b2 <;> cases b3 <;> cases b4 <;> first | (simp at hb; done) | (simp at hb'; done) | skip
                  all_goals
                    clear hb hb' hj1
                    go_wp2_with (go_at_call 23; refine (HJ.out).mono ?_; rintro e w' ⟨rfl, rfl⟩)
                    go_ret
                    exact ⟨ret_i (by rw [HX3.out]; omega), rfl⟩
              · obtain ⟨j, hj0⟩ : ∃ j, j = digs (s.data.toList.drop (n + 1)) := ⟨_, rfl⟩
                have HJ := Lib.hid (HcE.out (n + 1) j hj0)
                have hj : j ≤ s.size := by rw [hj0]; refine Nat.le_trans (digs_le _) ?_; simp
                cases b3 with
                | true => simp at hb'
                | false =>
                cases b4 with
                | true => simp at hb'
                | false =>
                have HX : Hid (expo (s.data.toList.drop n) = if j = 0 then 0 else 1 + j) := by
                  show _ = _
                  rw [HG.out]
                  refine expo_plain HG2.out (by rw [e1, e2]; exact hb) e3 e4 j ?_
                  rw [hj0, HG2.out]
                have HX2 := Lib.hid (deci_m HM'.out hm3 HX.out)
                clear HX hj0 hb'
                by_cases hj1 : j = 0
                · have HX3 : Hid (deci s.data.toList = n) := by have := HX2.out; rwa [if_pos hj1] at this
                  clear HX2
                  have hj2 : ¬ (0 : Int) < j := by omega
                  cases b1 <;> cases b2 <;> first | (simp at hb; done) | skip
                  all_goals
                    clear hb hj1
                    go_wp2_with (go_at_call 23; refine (HJ.out).mono ?_; rintro e w' ⟨rfl, rfl⟩)
                    go_ret
                    exact ⟨ret_i (by rw [HX3.out]), rfl⟩
                · have HX3 : Hid (deci s.data.toList = n + (1 + j)) := by have := HX2.out; rwa [if_neg hj1] at this
                  clear HX2
                  have hj2 : (0 : Int) < j := by omega
                  cases b1 <;> cases b2 <;> first | (simp at hb; done) | skip
                  all_goals
                    clear hb hj1
                    go_wp2_with (go_at_call 23; refine (HJ.out).mono ?_; rintro e w' ⟨rfl, rfl⟩)
                    go_ret
                    exact ⟨ret_i (by rw [HX3.out]; omega), rfl⟩
            · have HJ := Lib.hid (HcE.out (n + 1) 0 (by rw [drop_all (by omega)]; rfl))
              have HX3 : Hid (deci s.data.toList = n + 0) := by
                refine deci_m HM'.out hm3 ?_
                rw [HG.out]
                exact expo_end _ (drop_all (by omega))
              cases b1 <;> cases b2 <;> first | (simp at hb; done) | skip
              all_goals
                clear hb
                go_wp2_with (go_at_call 23; refine (HJ.out).mono ?_; rintro e w' ⟨rfl, rfl⟩)
                go_ret
                exact ⟨ret_i (by rw [HX3.out]; omega), rfl⟩
          · cases b1 with
            | true => simp at hb
            | false =>
            cases b2 with
            | true => simp at hb
            | false =>
            have HX3 : Hid (deci s.data.toList = n + 0) := by
              refine deci_m HM'.out hm3 ?_
              rw [HG.out]
              exact expo_no e1 e2
            clear hb
            go_wp2_with fail
            go_ret
            exact ⟨ret_i (by rw [HX3.out]; omega), rfl⟩
        · exact absurd h1 g1
    · obtain ⟨k, hk0⟩ : ∃ k, k = digs (s.data.toList.drop (n + 1)) := ⟨_, rfl⟩
      have hk : k ≤ s.size - (n + 1) := by rw [hk0]; refine Nat.le_trans (digs_le _) ?_; simp
      have HE1 := Lib.hid (HcE.out (n + 1) k hk0)
      have HM := Lib.hid (mant_dot HD.out HC.out e0 hk0)
      clear hk0
      go_wp2_with (go_at_call 23; refine (HE1.out).mono ?_; rintro e w' ⟨rfl, rfl⟩; refine Hid.out ?_)
      refine Lib.hid ?_
      clear HE1 e0
      by_cases h3 : n + k = 0
      · have h3' : ((n : Int) + k == 0) = true := by simp; omega
        go_wp2_with fail
        go_ret
        refine ⟨ret_i ?_, rfl⟩
        have := HM.out
        rw [if_pos h3] at this
        rw [deci_0 this]; rfl
      · have h3' : ((n : Int) + k == 0) = false := by simp; omega
        have HM' : Hid (mant s.data.toList = n + (1 + k)) := by
          have := HM.out
          rwa [if_neg h3] at this
        clear HM
        obtain ⟨m, hm0⟩ : ∃ m, m = n + (1 + k) := ⟨_, rfl⟩
        have hm2 : m ≤ s.size := by omega
        have hm3 : ¬ m = 0 := by omega
        have HM1 : Hid ((n : Int) + (1 + (k : Int)) = m) := by show _ = _; omega
        rw [← hm0] at HM'
        clear hm0 h3
        go_upto_region 8 with fail
        rw [HM1.out]
        clear HM1 h3' hk
        have hm0b : ((m : Int) == 0) = false := by simp; omega
        by_cases g1 : m < s.size
        · have HG := Lib.hid (drop_cons_of g1)
          obtain ⟨b1, e1⟩ : ∃ b, (nb s[m] == 101) = b := ⟨_, rfl⟩
          obtain ⟨b2, e2⟩ : ∃ b, (nb s[m] == 69) = b := ⟨_, rfl⟩
          by_cases hb : (b1 || b2) = true
          · by_cases g2 : m + 1 < s.size
            · have HG2 := Lib.hid (drop_cons_of g2)
              obtain ⟨b3, e3⟩ : ∃ b, (nb s[m + 1] == 43) = b := ⟨_, rfl⟩
              obtain ⟨b4, e4⟩ : ∃ b, (nb s[m + 1] == 45) = b := ⟨_, rfl⟩
              by_cases hb' : (b3 || b4) = true
              · obtain ⟨j, hj0⟩ : ∃ j, j = digs (s.data.toList.drop (m + 1 + 1)) := ⟨_, rfl⟩
                have HJ := Lib.hid (HcE.out (m + 1 + 1) j hj0)
                have hj : j ≤ s.size := by rw [hj0]; refine Nat.le_trans (digs_le _) ?_; simp
                have HX : Hid (expo (s.data.toList.drop m) = if j = 0 then 0 else 2 + j) := by
                  show _ = _
                  rw [HG.out]
                  exact expo_sign HG2.out (by rw [e1, e2]; exact hb) (by rw [e3, e4]; exact hb') j hj0
                have HX2 := Lib.hid (deci_m HM'.out hm3 HX.out)
                clear HX hj0
                by_cases hj1 : j = 0
                · have HX3 : Hid (deci s.data.toList = m) := by have := HX2.out; rwa [if_pos hj1] at this
                  clear HX2
                  have hj2 : ¬ (0 : Int) < j := by omega
                  cases b1 <;> cases b2 <;> cases b3 <;> cases b4 <;> first | (simp at hb; done) | (simp at hb'; done) | skip
                  all_goals
                    clear hb hb' hj1
                    go_wp2_with (go_at_call 23; refine (HJ.out).mono ?_; rintro e w' ⟨rfl, rfl⟩)
                    go_ret
                    exact ⟨ret_i (by rw [HX3.out]), rfl⟩
                · have HX3 : Hid (deci s.data.toList = m + (2 + j)) := by have := HX2.out; rwa [if_neg hj1] at this
                  clear HX2
                  have hj2 : (0 : Int) < j := by omega
                  cases b1 <;> cases b2 <;> cases b3 <;> cases b4 <;> first | (simp at hb; done) | (simp at hb'; done) | skip
                  all_goals
                    clear hb hb' hj1
                    go_wp2_with (go_at_call 23; refine (HJ.out).mono ?_; rintro e w' ⟨rfl, rfl⟩)
                    go_ret
                    exact ⟨ret_i (by rw [HX3.out]; omega), rfl⟩
              · obtain ⟨j, hj0⟩ : ∃ j, j = digs (s.data.toList.drop (m + 1)) := ⟨_, rfl⟩
                have HJ := Lib.hid (HcE.out (m + 1) j hj0)
                have hj : j ≤ s.size := by rw [hj0]; refine Nat.le_trans (digs_le _) ?_; simp
                cases b3 with
                | true => simp at hb'
                | false =>
                cases b4 with
                | true => simp at hb'
                | false =>
                have HX : Hid (expo (s.data.toList.drop m) = if j = 0 then 0 else 1 + j) := by
                  show _ = _
                  rw [HG.out]
                  refine expo_plain HG2.out (by rw [e1, e2]; exact hb) e3 e4 j ?_
                  rw [hj0, HG2.out]
                have HX2 := Lib.hid (deci_m HM'.out hm3 HX.out)
                clear HX hj0 hb'
                by_cases hj1 : j = 0
                · have HX3 : Hid (deci s.data.toList = m) := by have := HX2.out; rwa [if_pos hj1] at this
                  clear HX2
                  have hj2 : ¬ (0 : Int) < j := by omega
                  cases b1 <;> cases b2 <;> first | (simp at hb; done) | skip
                  all_goals
                    clear hb hj1
                    go_wp2_with (go_at_call 23; refine (HJ.out).mono ?_; rintro e w' ⟨rfl, rfl⟩)
                    go_ret
                    exact ⟨ret_i (by rw [HX3.out]), rfl⟩
                · have HX3 : Hid (deci s.data.toList = m + (1 + j)) := by have := HX2.out; rwa [if_neg hj1] at this
                  clear HX2
                  have hj2 : (0 : Int) < j := by omega
                  cases b1 <;> cases b2 <;> first | (simp at hb; done) | skip
                  all_goals
                    clear hb hj1
                    go_wp2_with (go_at_call 23; refine (HJ.out).mono ?_; rintro e w' ⟨rfl, rfl⟩)
                    go_ret
                    exact ⟨ret_i (by rw [HX3.out]; omega), rfl⟩
            · have HJ := Lib.hid (HcE.out (m + 1) 0 (by rw [drop_all (by omega)]; rfl))
              have HX3 : Hid (deci s.data.toList = m + 0) := by
                refine deci_m HM'.out hm3 ?_
                rw [HG.out]
                exact expo_end _ (drop_all (by omega))
              cases b1 <;> cases b2 <;> first | (simp at hb; done) | skip
              all_goals
                clear hb
                go_wp2_with (go_at_call 23; refine (HJ.out).mono ?_; rintro e w' ⟨rfl, rfl⟩)
                go_ret
                exact ⟨ret_i (by rw [HX3.out]; omega), rfl⟩
          · cases b1 with
            | true => simp at hb
            | false =>
            cases b2 with
            | true => simp at hb
            | false =>
            have HX3 : Hid (deci s.data.toList = m + 0) := by
              refine deci_m HM'.out hm3 ?_
              rw [HG.out]
              exact expo_no e1 e2
            clear hb
            go_wp2_with fail
            go_ret
            exact ⟨ret_i (by rw [HX3.out]; omega), rfl⟩
        · have HX3 : Hid (deci s.data.toList = m + 0) := by
            refine deci_m HM'.out hm3 ?_
            rw [drop_all (by omega)]
            exact expo_nil
          go_wp2_with fail
          go_ret
          exact ⟨ret_i (by rw [HX3.out]; omega), rfl⟩
  · have HM' := Lib.hid (mant_nil HD.out (drop_all (show s.size ≤ n by omega)))
    have hm2 : n ≤ s.size := by omega
    by_cases hm3 : n = 0
    · have hm0b : ((n : Int) == 0) = true := by simp; omega
      have HX := Lib.hid (deci_0 (HM'.out.trans hm3))
      clear hm3
      go_wp2_with fail
      go_ret
      exact ⟨ret_i (by rw [HX.out]; rfl), rfl⟩
    · go_upto_region 8 with fail
      have hm0b : ((n : Int) == 0) = false := by simp; omega
      have HX3 : Hid (deci s.data.toList = n + 0) := by
        refine deci_m HM'.out hm3 ?_
        rw [drop_all (by omega)]
        exact expo_nil
      go_wp2_with fail
      go_ret
      exact ⟨ret_i (by rw [HX3.out]; omega), rfl⟩
end Go.Proofs.YtfmkfnochjeleaaGreatDoor
