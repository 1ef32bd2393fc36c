import Derived.Test.YtfmkfnochjeleaaGreatDoorC2
namespace Go.Proofs.YtfmkfnochjeleaaGreatDoor
open Go.RowKit

def pfLp (p : Int) : Int := p * 108853 / 32768
def pfE (m : Nat) (p : Int) : Int := min 1074 (53 - Lib.bitLen m - pfLp p)
def pfS (m : Nat) (p : Int) : Int := 61 - Lib.bitLen m - pfLp p - pfE m p
def pfU (m : Nat) (p : Int) : Nat := usc (m * 2 ^ (64 - Lib.bitLen m)) (pHi (p + 348).toNat) (pLo (p + 348).toNat) (pfS m p).toNat
def pfD (u : Nat) : Bool := decide (36028797018963966 ≤ u)
def pfM (u : Nat) : Nat := rnd (u / 2 ^ (pfD u).toNat ||| u % 2)
/-- parseFloat64: the magnitude's rung -/
def pf64 (m : Nat) (p : Int) : Nat := if 64 ≤ pfS m p then 0 else packR (pfM (pfU m p)) (-(pfE m p - (pfD (pfU m p)).toNat))

theorem pHi_ge : ∀ i, i < 696 → 9223372036854775808 ≤ pHi i := by decide +kernel

/-- the scaled number is small enough -/
theorem usc_le (x hi lo s : Nat) (hx : x < 18446744073709551616) (hh : hi ≤ 18446744073709550592) (hs : 8 ≤ s) : usc x hi lo s ≤ 72057594037927931 := by
  have hH : uscH x hi ≤ 18446744073709550591 := by
    unfold uscH
    have : x * hi < 18446744073709551616 * 18446744073709550592 := by
      have h1 : x * hi ≤ x * 18446744073709550592 := Nat.mul_le_mul_left x hh
      have h2 : x * 18446744073709550592 < 18446744073709551616 * 18446744073709550592 := Nat.mul_lt_mul_of_pos_right hx (by decide)
      omega
    have h3 := (Nat.div_lt_iff_lt_mul (k := 18446744073709551616) (x := x * hi) (y := 18446744073709550592) (by decide)).2 (by rw [Nat.mul_comm 18446744073709550592]; exact this)
    omega
  have hq : ∀ y, y ≤ 18446744073709550591 → y / 2 ^ s ≤ 72057594037927931 := fun y hy => by
    have : y / 2 ^ s ≤ y / 2 ^ 8 := Nat.div_le_div_left (Nat.pow_le_pow_right (by decide) hs) (by decide)
    have e : (2 : Nat) ^ 8 = 256 := by decide
    rw [e] at this
    omega
  have hor : ∀ y b : Nat, y ≤ 72057594037927931 → b ≤ 1 → y ||| b ≤ 72057594037927931 := fun y b hy hb => by
    have hb2 : b = 0 ∨ b = 1 := by omega
    rcases hb2 with rfl | rfl
    · rw [Nat.or_zero]; exact hy
    · have h1 : (y ||| 1) / 2 = y / 2 := by
        have := Nat.or_div_two (a := y) (b := 1)
        rw [this]; simp
      omega
  unfold usc
  split
  · exact hor _ 1 (hq _ hH) (Nat.le_refl _)
  · refine hor _ _ (hq _ (by omega)) (Bool.toNat_le _)

theorem pfM_lt (u : Nat) (h : u ≤ 72057594037927931) : pfM u < 9007199254740992 := by
  have hor : ∀ y b : Nat, b ≤ 1 → y ||| b ≤ y / 2 * 2 + 1 := fun y b hb => by
    have h1 : (y ||| b) / 2 = y / 2 := by
      have := Nat.or_div_two (a := y) (b := b)
      rw [this, show b / 2 = 0 by omega]; simp
    omega
  unfold pfM rnd pfD
  by_cases hd : 36028797018963966 ≤ u
  · rw [decide_eq_true hd]
    have := hor (u / 2 ^ true.toNat) (u % 2) (by omega)
    have e : (2 : Nat) ^ true.toNat = 2 := rfl
    rw [e] at this ⊢
    omega
  · rw [decide_eq_false hd]
    have := hor (u / 2 ^ false.toNat) (u % 2) (by omega)
    have e : (2 : Nat) ^ false.toNat = 1 := rfl
    rw [e] at this ⊢
    omega

theorem pow_norm (m : Nat) (hm0 : 0 < m) (hm : m < 18446744073709551616) : 9223372036854775808 ≤ m * 2 ^ (64 - Lib.bitLen m) ∧ m * 2 ^ (64 - Lib.bitLen m) < 18446744073709551616 := by
  obtain ⟨h0, h1, h2, h3⟩ := bitLen_two m hm0 hm
  generalize Lib.bitLen m = b at *
  have e : (2 : Nat) ^ (b - 1) * 2 ^ (64 - b) = 9223372036854775808 := by
    rw [← Nat.pow_add, show b - 1 + (64 - b) = 63 by omega]
  have e' : (2 : Nat) ^ b * 2 ^ (64 - b) = 18446744073709551616 := by
    rw [← Nat.pow_add, show b + (64 - b) = 64 by omega]
  have p := Nat.two_pow_pos (64 - b)
  constructor
  · rw [← e]; exact Nat.mul_le_mul_right _ h2
  · rw [← e']; exact Nat.mul_lt_mul_of_pos_right h3 p

set_option maxHeartbeats 1000000 in
set_option maxRecDepth 100000 in
theorem parse64_any (m : Nat) (p : Int) (sgn : Bool) (w : World) (hm0 : 0 < m) (hm : m < 18446744073709551616) (h1 : -345 ≤ p) (h2 : p ≤ 310) (hT : PowTab w) (h11 : 11 < w.heap.size) :
   Calls Tryz.prog 60 #[.int .u64 m, .int .i64 p, .int .u64 (sgnW sgn : Nat)] w fun r w' =>
     r = .returned (.tuple #[.float .f64 (Fl.sg sgn (pf64 m p)), errOf (pf64 m p)]) ∧ Below w.heap.size w w' := by
  obtain ⟨M, hM⟩ : ∃ M : Int, M = m := ⟨_, rfl⟩
  obtain ⟨B, hB⟩ : ∃ B : Int, B = Lib.bitLen m := ⟨_, rfl⟩
  have hb := bitLen_two m hm0 hm
  have b0 : 0 < B := by rw [hB]; omega
  have b1 : B ≤ 64 := by rw [hB]; omega
  have C82 : Hid (∀ w, Calls Tryz.prog 82 #[.int .u64 M] w fun e w' => e = .returned (.int .i64 B) ∧ w = w') := by
    intro w; rw [hM, hB]; exact len_any m w hm
  obtain ⟨L, hL⟩ : ∃ L : Int, L = pfLp p := ⟨_, rfl⟩
  have C83 : Hid (∀ w, Calls Tryz.prog 83 #[.int .i64 p] w fun e w' => e = .returned (.int .i64 L) ∧ w = w') := by
    intro w; rw [hL]; exact lg_any p w (by omega) (by omega)
  have l0 : -1147 ≤ L := by rw [hL]; unfold pfLp; omega
  have l1 : L ≤ 1030 := by rw [hL]; unfold pfLp; omega
  obtain ⟨W, hW⟩ : ∃ W : Int, W = sgnW sgn := ⟨_, rfl⟩
  have hW' := Lib.hid hW
  have hM' := Lib.hid hM
  have hB' := Lib.hid hB
  have hL' := Lib.hid hL
  have hT' := Lib.hid hT
  have hm' := Lib.hid hm
  have hm0' := Lib.hid hm0
  have hb' := Lib.hid hb
  rw [← hM, ← hW]
  clear hM hB hL hT hm hm0 hb hW
  go_enter Tryz.func60, Tryz.ntmps60
  go_upto_region 5 with first
    | (go_at_call 82; refine (C82.out _).mono ?_; rintro e w' ⟨rfl, rfl⟩)
    | (go_at_call 83; refine (C83.out _).mono ?_; rintro e w' ⟨rfl, rfl⟩)
  obtain ⟨E, hE⟩ : ∃ E, E = min 1074 (53 - B - L) := ⟨_, rfl⟩
  rw [← hE]
  have hE' := Lib.hid hE
  have e0 : E ≤ 1074 := by omega
  have e1 : E ≤ 53 - B - L := by omega
  have e2 : -1100 ≤ E := by omega
  clear hE
  have hA : Hid (∃ wA, wA = w.alloc (Obj.cells #[Value.int IntKind.u64 0, Value.int IntKind.u64 0, Value.int IntKind.i64 0] 154)) := ⟨_, rfl⟩
  obtain ⟨wA, hwA⟩ := hA.out
  rw [← hwA]
  have c0 : Hid (wA.cell? ⟨w.heap.size, 0, none⟩ = some (.int .u64 0)) := by show _ = _; rw [hwA]; simp [go_sem]
  have c1 : Hid (wA.cell? ⟨w.heap.size, 1, none⟩ = some (.int .u64 0)) := by show _ = _; rw [hwA]; simp [go_sem]
  have c2 : Hid (wA.cell? ⟨w.heap.size, 2, none⟩ = some (.int .i64 0)) := by show _ = _; rw [hwA]; simp [go_sem]
  have c3 : Hid (∀ o, wA.frozen? ⟨w.heap.size, o, none⟩ = false) := by intro o; rw [hwA]; simp [go_sem]
  have c4 : Hid (Below w.heap.size w wA) := by rw [hwA]; exact (Below.refl _ _).alloc (Nat.le_refl _) _
  have c5 : Hid (PowTab wA) := fun i hi => by
    have := hT'.out i hi
    rw [c4.out.cell h11, c4.out.cell h11]; exact this
  clear hwA hA
  go_upto_region 6 with (go_at_call 84; refine (prescale_any _ _ _ _ _ h1 h2 (by omega) (by omega) (by omega) (by omega) c5.out c0.out c1.out c2.out c3.out h11).mono ?_; rintro e w1 ⟨rfl, q0, q1, q2, q3⟩)
  obtain ⟨S, hS⟩ : ∃ S, S = -(E - (64 - B) + L + 3) := ⟨_, rfl⟩
  rw [← hS] at q2
  have hS' := Lib.hid hS
  have s0 : 8 ≤ S := by omega
  have s1 : S ≤ 5000 := by omega
  clear hS
  by_cases h64 : 64 ≤ S
  · have h64' := Lib.hid h64
    have C58 := call58
    go_wp2_with fail
    go_ret2
    have hp : pf64 m p = 0 := by
      have a := hS'.out; have b := hE'.out; have c := hB'.out; have d := hL'.out; have g := h64'.out
      unfold pf64
      rw [if_pos (by unfold pfS pfE; omega)]
    have hs := sgnW_lt sgn
    rw [hp, sg_sgnW]
    have e2 := u64_or_nat (sgnW sgn) 0 (by omega) (by decide)
    rw [Nat.or_zero] at e2
    refine ⟨ret2v (congrArg (Value.float FloatKind.f64) ?_) rfl, c4.out.trans q3⟩
    show (bits .or .u64 W ((0 : Nat) : Int)).toNat = _
    rw [hW'.out, e2]
    rfl
  · have h64' := Lib.hid h64
    obtain ⟨U, hU⟩ : ∃ U : Int, U = pfU m p := ⟨_, rfl⟩
    have C85 : Hid (Calls Tryz.prog 85 #[.int .u64 (IntKind.u64.wrap (M * 2 ^ (64 - B).toNat)), .pointer (some ⟨w.heap.size, 0, none⟩)] w1 fun e w' => e = .returned (.int .u64 U) ∧ ∃ n, w' = w1.drewN n) := by
      have hn := pow_norm m hm0'.out hm'.out
      have hb := hb'.out
      have hi := pRows (p + 348).toNat (by omega)
      have hg := pHi_ge (p + 348).toNat (by omega)
      have hw : IntKind.u64.wrap (M * 2 ^ (64 - B).toNat) = ((m * 2 ^ (64 - Lib.bitLen m) : Nat) : Int) := by
        rw [hM'.out, hB'.out, show (64 - (Lib.bitLen m : Int)).toNat = 64 - Lib.bitLen m by omega, pw, ← Int.natCast_mul, wrapN _ hn.2]
      rw [hw, hU]
      have hs : S = ((pfS m p).toNat : Int) := by
        have a := hS'.out; have b := hE'.out; have c := hB'.out; have d := hL'.out
        unfold pfS pfE
        omega
      have q2' := q2
      rw [hs] at q2'
      exact uscale_any _ _ _ _ _ _ hn.2 hn.1 (by omega) hg hi.2 (by omega) q0 q1 q2'
    have hU' := Lib.hid hU
    have u0 : 0 ≤ U := by omega
    clear hU
    have u1 : U ≤ 72057594037927931 := by
      rw [hU'.out]
      have hn := pow_norm m hm0'.out hm'.out
      have hi := pRows (p + 348).toNat (by omega)
      have hs : S = ((pfS m p).toNat : Int) := by
        have a := hS'.out; have b := hE'.out; have c := hB'.out; have d := hL'.out
        unfold pfS pfE
        omega
      have := usc_le (m * 2 ^ (64 - Lib.bitLen m)) (pHi (p + 348).toNat) (pLo (p + 348).toNat) (pfS m p).toNat hn.2 hi.1 (by omega)
      unfold pfU
      omega
    have Q0 := Lib.hid q0
    have Q1 := Lib.hid q1
    clear q0 q1
    obtain ⟨R, hR⟩ : ∃ R : Int, R = pfM (pfU m p) := ⟨_, rfl⟩
    have hR' := Lib.hid hR
    clear hR
    cases hd : decide (36028797018963966 ≤ U)
    · skip
      have C89 : Hid (∀ w, Calls Tryz.prog 89 #[.int .u64 (bits BinOp.or IntKind.u64 U (bits BinOp.and IntKind.u64 U 1))] w fun e w' => e = .returned (.int .u64 R) ∧ w = w') := by
        intro w
        have e1 : (bits BinOp.or IntKind.u64 U (bits BinOp.and IntKind.u64 U 1)) = ((pfU m p / 2 ^ (pfD (pfU m p)).toNat ||| pfU m p % 2 : Nat) : Int) := by
          have hd2 := of_decide_eq_false hd
          rw [hU'.out] at u1 hd2 ⊢
          have hdd : pfD (pfU m p) = false := by unfold pfD; simp only [decide_eq_false_iff_not]; omega
          rw [and1 _ (by omega), hdd]
          have e0 : pfU m p / 2 ^ false.toNat = pfU m p := Nat.div_one _
          rw [e0]
          exact u64_or_nat (pfU m p) (pfU m p % 2) (by omega) (by omega)
        rw [e1, hR'.out]
        refine round_any _ w ?_
        have hb2 := Nat.or_lt_two_pow (x := pfU m p / 2 ^ (pfD (pfU m p)).toNat) (y := pfU m p % 2) (n := 60) (Nat.lt_of_le_of_lt (Nat.div_le_self _ _) (by rw [hU'.out] at u1; omega)) (by omega)
        omega
      have C92 : Hid (∀ w, Calls Tryz.prog 92 #[.int .u64 (bits .or .u64 W R), .int .i64 (-E)] w fun e w' => e = .returned (.tuple #[.float .f64 (Fl.sg sgn (pf64 m p)), errOf (pf64 m p)]) ∧ w = w') := by
        intro w
        have hs := sgnW_lt sgn
        have hM3 : pfM (pfU m p) < 9007199254740992 := pfM_lt _ (by rw [hU'.out] at u1; omega)
        have e1 : bits .or .u64 W R = ((sgnW sgn + pfM (pfU m p) : Nat) : Int) := by
          rw [hW'.out, hR'.out, ← sgnW_or sgn _ (by omega)]
          exact u64_or_nat _ _ (by omega) (by omega)
        have e2 : -E = -(pfE m p - (pfD (pfU m p)).toNat) := by
          have hd2 := of_decide_eq_false hd
          rw [hU'.out] at hd2
          have hdd : pfD (pfU m p) = false := by unfold pfD; simp only [decide_eq_false_iff_not]; omega
          have a := hE'.out; have c := hB'.out; have d := hL'.out
          rw [hdd]
          unfold pfE
          simp only [Bool.toNat_false]
          omega
        have e3 : pf64 m p = packR (pfM (pfU m p)) (-E) := by
          have a := hS'.out; have b := hE'.out; have c := hB'.out; have d := hL'.out; have g := h64'.out
          unfold pf64
          rw [if_neg (by unfold pfS pfE; omega), ← e2]
        rw [e1, e3]
        exact pack_any _ _ _ w hM3 (by omega) (by omega)
      go_wp2_with first
        | (go_at_call 85; refine C85.out.mono ?_; rintro e w' ⟨rfl, n, rfl⟩)
        | (go_at_call 87; refine (unmin_any _).mono ?_; rintro e w' ⟨rfl, rfl⟩)
        | (go_at_call 86; refine (bint_any _ _).mono ?_; rintro e w' ⟨rfl, rfl⟩)
        | (go_at_call 89; refine (C89.out _).mono ?_; rintro e w' ⟨rfl, rfl⟩)
        | (go_at_call 92; refine (C92.out _).mono ?_; rintro e w' ⟨rfl, rfl⟩)
      go_ret2
      exact ⟨rfl, below_drewN (c4.out.trans q3) _⟩
    · skip
      have C89 : Hid (∀ w, Calls Tryz.prog 89 #[.int .u64 (bits BinOp.or IntKind.u64 (U / 2) (bits BinOp.and IntKind.u64 U 1))] w fun e w' => e = .returned (.int .u64 R) ∧ w = w') := by
        intro w
        have e1 : (bits BinOp.or IntKind.u64 (U / 2) (bits BinOp.and IntKind.u64 U 1)) = ((pfU m p / 2 ^ (pfD (pfU m p)).toNat ||| pfU m p % 2 : Nat) : Int) := by
          have hd2 := of_decide_eq_true hd
          rw [hU'.out] at u1 hd2 ⊢
          have hdd : pfD (pfU m p) = true := by unfold pfD; simp only [decide_eq_true_eq]; omega
          rw [and1 _ (by omega), hdd]
          exact u64_or_nat (pfU m p / 2 ^ true.toNat) (pfU m p % 2) (Nat.lt_of_le_of_lt (Nat.div_le_self _ _) (by omega)) (by omega)
        rw [e1, hR'.out]
        refine round_any _ w ?_
        have hb2 := Nat.or_lt_two_pow (x := pfU m p / 2 ^ (pfD (pfU m p)).toNat) (y := pfU m p % 2) (n := 60) (Nat.lt_of_le_of_lt (Nat.div_le_self _ _) (by rw [hU'.out] at u1; omega)) (by omega)
        omega
      have C92 : Hid (∀ w, Calls Tryz.prog 92 #[.int .u64 (bits .or .u64 W R), .int .i64 (-(E - 1))] w fun e w' => e = .returned (.tuple #[.float .f64 (Fl.sg sgn (pf64 m p)), errOf (pf64 m p)]) ∧ w = w') := by
        intro w
        have hs := sgnW_lt sgn
        have hM3 : pfM (pfU m p) < 9007199254740992 := pfM_lt _ (by rw [hU'.out] at u1; omega)
        have e1 : bits .or .u64 W R = ((sgnW sgn + pfM (pfU m p) : Nat) : Int) := by
          rw [hW'.out, hR'.out, ← sgnW_or sgn _ (by omega)]
          exact u64_or_nat _ _ (by omega) (by omega)
        have e2 : -(E - 1) = -(pfE m p - (pfD (pfU m p)).toNat) := by
          have hd2 := of_decide_eq_true hd
          rw [hU'.out] at hd2
          have hdd : pfD (pfU m p) = true := by unfold pfD; simp only [decide_eq_true_eq]; omega
          have a := hE'.out; have c := hB'.out; have d := hL'.out
          rw [hdd]
          unfold pfE
          simp only [Bool.toNat_true]
          omega
        have e3 : pf64 m p = packR (pfM (pfU m p)) (-(E - 1)) := by
          have a := hS'.out; have b := hE'.out; have c := hB'.out; have d := hL'.out; have g := h64'.out
          unfold pf64
          rw [if_neg (by unfold pfS pfE; omega), ← e2]
        rw [e1, e3]
        exact pack_any _ _ _ w hM3 (by omega) (by omega)
      go_wp2_with first
        | (go_at_call 85; refine C85.out.mono ?_; rintro e w' ⟨rfl, n, rfl⟩)
        | (go_at_call 87; refine (unmin_any _).mono ?_; rintro e w' ⟨rfl, rfl⟩)
        | (go_at_call 86; refine (bint_any _ _).mono ?_; rintro e w' ⟨rfl, rfl⟩)
        | (go_at_call 89; refine (C89.out _).mono ?_; rintro e w' ⟨rfl, rfl⟩)
        | (go_at_call 92; refine (C92.out _).mono ?_; rintro e w' ⟨rfl, rfl⟩)
      go_ret2
      exact ⟨rfl, below_drewN (c4.out.trans q3) _⟩

theorem pf64_le (m : Nat) (p : Int) (hm0 : 0 < m) (hm : m < 18446744073709551616) (h1 : -345 ≤ p) (h2 : p ≤ 310) : pf64 m p ≤ 9218868437227405312 := by
  unfold pf64
  split
  · exact Nat.zero_le _
  · refine packR_le (pfM_lt _ ?_)
    have hn := pow_norm m hm0 hm
    have hi := pRows (p + 348).toNat (by omega)
    unfold pfU
    exact usc_le _ _ _ _ hn.2 hi.1 (by unfold pfS pfE; omega)

end Go.Proofs.YtfmkfnochjeleaaGreatDoor
