import Derived.Test.YtfmkfnochjeleaaGreatDoorC1
import Derived.Test.YtfmkfnochjeleaaGreatDoorFl
namespace Go.Proofs.YtfmkfnochjeleaaGreatDoor
open Go.RowKit
theorem and63 : ∀ s : Nat, s < 64 → bits .and .i64 (s : Int) 63 = (s : Int) := by decide +kernel

def uscH (x hi : Nat) : Nat := x * hi / 18446744073709551616
def uscL (x hi : Nat) : Nat := x * hi % 18446744073709551616
/-- what uscale hands back -/
def usc (x hi lo s : Nat) : Nat :=
  if uscH x hi / 2 ^ s * 2 ^ s ≠ uscH x hi then uscH x hi / 2 ^ s ||| 1 else
  (uscH x hi - (decide (uscL x hi < uscH x lo)).toNat) / 2 ^ s ||| (decide (1 < (uscL x hi + 18446744073709551616 - uscH x lo) % 18446744073709551616)).toNat

theorem uscH_lt {x y : Nat} (hx : x < 18446744073709551616) (hy : y < 18446744073709551616) : uscH x y < 18446744073709551616 := by
  unfold uscH
  rw [Nat.div_lt_iff_lt_mul (by decide)]
  exact Nat.lt_of_le_of_lt (Nat.mul_le_mul_left x (Nat.le_of_lt hy)) (Nat.mul_lt_mul_of_pos_right hx (by decide))
theorem uscL_lt {x y : Nat} : uscL x y < 18446744073709551616 := Nat.mod_lt _ (by decide)
theorem uscH_pos {x y : Nat} (hx2 : 9223372036854775808 ≤ x) (hh2 : 9223372036854775808 ≤ y) : 0 < uscH x y := by
  unfold uscH
  have : 9223372036854775808 * 9223372036854775808 ≤ x * y := Nat.mul_le_mul hx2 hh2
  omega

theorem pw (s : Nat) : (2 : Int) ^ s = ((2 ^ s : Nat) : Int) := by simp
theorem wrapN (a : Nat) (ha : a < 18446744073709551616) : IntKind.u64.wrap (a : Int) = (a : Int) := Mul64.wrapN a ha

theorem usc_test (H : Nat) (s : Nat) (hH : H < 18446744073709551616) : (IntKind.u64.wrap ((H : Int) / 2 ^ s * 2 ^ s) != (H : Int)) = decide (H / 2 ^ s * 2 ^ s ≠ H) := by
  rw [pw, ← Int.natCast_ediv, ← Int.natCast_mul, wrapN _ (Nat.lt_of_le_of_lt (Nat.div_mul_le_self _ _) hH)]
  by_cases h : H / 2 ^ s * 2 ^ s = H
  · rw [h]; simp
  · have : ¬ ((H / 2 ^ s * 2 ^ s : Nat) : Int) = (H : Int) := by omega
    simp only [bne, decide_not, Bool.not_eq_eq_eq_not]
    rw [beq_eq_false_iff_ne.2 this, decide_eq_false h]; rfl

theorem usc_one (H s : Nat) (hH : H < 18446744073709551616) : bits .or .u64 ((H : Int) / 2 ^ s) 1 = ((H / 2 ^ s ||| 1 : Nat) : Int) := by
  rw [pw, ← Int.natCast_ediv]
  exact u64_or_nat (H / 2 ^ s) 1 (Nat.lt_of_le_of_lt (Nat.div_le_self _ _) hH) (by decide)

theorem usc_two (H L M s : Nat) (hH : H < 18446744073709551616) (h0 : 0 < H) (hL : L < 18446744073709551616) (hM : M < 18446744073709551616) :
    bits .or .u64 (IntKind.u64.wrap ((H : Int) - ((decide ((L : Int) < (M : Int))).toNat : Int)) / 2 ^ s) ((decide (1 < IntKind.u64.wrap ((L : Int) - (M : Int)))).toNat : Int) =
      (((H - (decide (L < M)).toNat) / 2 ^ s ||| (decide (1 < (L + 18446744073709551616 - M) % 18446744073709551616)).toNat : Nat) : Int) := by
  have e1 : decide ((L : Int) < (M : Int)) = decide (L < M) := by simp only [decide_eq_decide]; omega
  have e2 : decide (1 < IntKind.u64.wrap ((L : Int) - (M : Int))) = decide (1 < (L + 18446744073709551616 - M) % 18446744073709551616) := by
    simp only [decide_eq_decide, IntKind.wrap_u64]; omega
  rw [e1, e2]
  have e3 : IntKind.u64.wrap ((H : Int) - ((decide (L < M)).toNat : Int)) = ((H - (decide (L < M)).toNat : Nat) : Int) := by
    rw [IntKind.wrap_u64]
    have : (decide (L < M)).toNat ≤ 1 := Bool.toNat_le _
    omega
  rw [e3, pw, ← Int.natCast_ediv]
  have hb : ∀ b : Bool, b.toNat < 18446744073709551616 := fun b => by cases b <;> decide
  exact u64_or_nat _ _ (Nat.lt_of_le_of_lt (Nat.div_le_self _ _) (by omega)) (hb _)

set_option maxHeartbeats 200000 in
set_option maxRecDepth 100000 in
theorem uscale_any (x hi lo : Nat) (s : Nat) (b : Nat) (w : World) (hx : x < 18446744073709551616) (hx2 : 9223372036854775808 ≤ x) (hh : hi < 18446744073709551616) (hh2 : 9223372036854775808 ≤ hi) (hl : lo < 18446744073709551616)
   (hs : s < 64)
   (c0 : w.cell? ⟨b, 0, none⟩ = some (.int .u64 hi)) (c1 : w.cell? ⟨b, 1, none⟩ = some (.int .u64 lo)) (c2 : w.cell? ⟨b, 2, none⟩ = some (.int .i64 s)) :
   Calls Tryz.prog 85 #[.int .u64 x, .pointer (some ⟨b, 0, none⟩)] w fun r w' => r = .returned (.int .u64 (usc x hi lo s)) ∧ ∃ n, w' = w.drewN n := by
  have hm := and63 s hs
  obtain ⟨H, hH⟩ : ∃ H : Int, H = (uscH x hi : Int) := ⟨_, rfl⟩
  obtain ⟨L, hL⟩ : ∃ H : Int, H = (uscL x hi : Int) := ⟨_, rfl⟩
  obtain ⟨M, hM⟩ : ∃ H : Int, H = (uscH x lo : Int) := ⟨_, rfl⟩
  have bH : H ≤ 18446744073709551615 := by have := uscH_lt hx hh; omega
  have bL : L ≤ 18446744073709551615 := by have := @uscL_lt x hi; omega
  have bM : M ≤ 18446744073709551615 := by have := uscH_lt hx hl; omega
  have bH0 : 0 < H := by have := uscH_pos hx2 hh2; omega
  have bL0 : 0 ≤ L := by omega
  have bM0 : 0 ≤ M := by omega
  have hx' := Lib.hid hx
  have hl' := Lib.hid hl
  have hh' := Lib.hid hh
  have M1 : Hid (∀ w, Calls Tryz.prog 105 #[.int .u64 x, .int .u64 hi] w fun e w' => e = .returned (.tuple #[.int .u64 H, .int .u64 L]) ∧ w = w') := by
    intro w; rw [hH, hL]; unfold uscH uscL; exact mul64_any x hi hx hh w
  have M2 : Hid (∃ N : Int, ∀ w, Calls Tryz.prog 105 #[.int .u64 x, .int .u64 lo] w fun e w' => e = .returned (.tuple #[.int .u64 M, .int .u64 N]) ∧ w = w') := by
    refine ⟨(uscL x lo : Int), fun w => ?_⟩; rw [hM]; unfold uscH uscL; exact mul64_any x lo hx hl w
  have hH' := Lib.hid hH
  have hL' := Lib.hid hL
  have hM' := Lib.hid hM
  have bH' := Lib.hid bH
  have bL' := Lib.hid bL
  have bM' := Lib.hid bM
  clear hH hL hM hx hx2 hh hh2 hl bH bL bM
  go_enter Tryz.func85, Tryz.ntmps85
  go_upto_region 3 with (go_at_call 105; refine (M1.out _).mono ?_; rintro e w' ⟨rfl, rfl⟩)
  cases hq : (IntKind.u64.wrap (H / 2 ^ s * 2 ^ s) != H)
  · go_upto_region 5 with fail
    have HQ := Lib.hid hq
    clear hq
    have bH := bH'.out
    have bL := bL'.out
    have bM := bM'.out
    obtain ⟨N, hN⟩ := M2.out
    have HN := Lib.hid hN
    clear hN
    go_upto_region 7 with first
      | (go_at_call 105; refine (HN.out _).mono ?_; rintro e w' ⟨rfl, rfl⟩)
      | (go_at_call 57; refine (b64_any _ _).mono ?_; rintro e w' ⟨rfl, rfl⟩)
    go_quiet (first | (go_at_call 57; exact Calls.quiet_of_same ((b64_any _ _).mono (fun e w' h => ⟨h.1, h.2.symm⟩))))
    go_wp2_with fail
    go_ret
    refine ⟨congrArg Ending.returned (congrArg (Value.int IntKind.u64) ?_), _, rfl⟩
    have hq := HQ.out
    rw [hH'.out] at bH0 bH hq
    rw [hL'.out] at bL
    rw [hM'.out] at bM
    rw [hH'.out, hL'.out, hM'.out]
    rw [usc_test _ _ (by omega)] at hq
    unfold usc
    rw [if_neg (of_decide_eq_false hq)]
    exact usc_two _ _ _ _ (by omega) (by omega) (by omega) (by omega)
  · have HQ := Lib.hid hq
    go_wp2_with fail
    go_ret
    refine ⟨congrArg Ending.returned (congrArg (Value.int IntKind.u64) ?_), 0, rfl⟩
    have hq := HQ.out
    have bH := bH'.out
    rw [hH'.out] at bH hq
    rw [hH'.out]
    rw [usc_test _ _ (by omega)] at hq
    unfold usc
    rw [if_pos (of_decide_eq_true hq)]
    exact usc_one _ _ (by omega)

/-- the small number that the walk wants of the world: the rows of pow10Tab -/
def PowTab (w : World) : Prop := ∀ i, i < 696 → w.cell? ⟨11, i * 2, none⟩ = some (.int .u64 (pHi i)) ∧ w.cell? ⟨11, i * 2 + 1, none⟩ = some (.int .u64 (pLo i))

set_option maxHeartbeats 1000000 in
set_option maxRecDepth 100000 in
theorem prescale_any (b : Nat) (e p lp : Int) (w : World) (h1 : -345 ≤ p) (h2 : p ≤ 310) (h3 : -5000 ≤ e) (h4 : e ≤ 5000) (h5 : -5000 ≤ lp) (h6 : lp ≤ 5000)
   (hc : PowTab w) (hb : w.cell? ⟨b, 0, none⟩ = some (.int .u64 0)) (hb1 : w.cell? ⟨b, 1, none⟩ = some (.int .u64 0))  (hb2 : w.cell? ⟨b, 2, none⟩ = some (.int .i64 0))
   (hf : ∀ o, w.frozen? ⟨b, o, none⟩ = false) (hb11 : 11 < b) :
   Calls Tryz.prog 84 #[.pointer (some ⟨b, 0, none⟩), .int .i64 e, .int .i64 p, .int .i64 lp] w fun r w' => r = .returned (.tuple #[]) ∧
     w'.cell? ⟨b, 0, none⟩ = some (.int .u64 (pHi (p + 348).toNat)) ∧ w'.cell? ⟨b, 1, none⟩ = some (.int .u64 (pLo (p + 348).toNat)) ∧ w'.cell? ⟨b, 2, none⟩ = some (.int .i64 (-(e + lp + 3))) ∧ Below b w w' := by
  obtain ⟨t0, t1⟩ := hc (p + 348).toNat (by omega)
  clear hc
  have hne : b ≠ 11 := by omega
  have hne' : (11 : Nat) ≠ b := by omega
  go_enter Tryz.func84, Tryz.ntmps84
  go_wp2_with fail
  go_end0
  exact ⟨rfl, by simp [go_sem, hb], by simp [go_sem, hb1], by simp [go_sem, hb2], Below.setCell (p := ⟨b, 2, none⟩) (Below.setCell (p := ⟨b, 1, none⟩) (Below.setCell (p := ⟨b, 0, none⟩) (Below.refl b w) (Nat.le_refl b) _) (Nat.le_refl b) _) (Nat.le_refl b) _⟩

def sgnW (s : Bool) : Nat := if s then 9223372036854775808 else 0
theorem sg_sgnW (s : Bool) (r : Nat) : Fl.sg s r = sgnW s + r := by cases s <;> simp [Fl.sg, sgnW, Fl.S]

theorem bit52 (s : Bool) (m : Nat) (hm : m < 9007199254740992) : (sgnW s + m) &&& 4503599627370496 = m / 4503599627370496 * 4503599627370496 := by
  have h := nat_bit 52 (sgnW s + m)
  have e : (2 : Nat) ^ 52 = 4503599627370496 := by decide
  rw [e] at h
  rw [h]
  unfold sgnW
  cases s <;> simp <;> omega
theorem bit63 (s : Bool) (m : Nat) (hm : m < 9223372036854775808) : (sgnW s + m) &&& 9223372036854775808 = sgnW s := by
  have h := nat_bit 63 (sgnW s + m)
  have e : (2 : Nat) ^ 63 = 9223372036854775808 := by decide
  rw [e] at h
  rw [h]
  unfold sgnW
  cases s <;> simp <;> omega
theorem sgnW_or (s : Bool) (m : Nat) (hm : m < 9223372036854775808) : sgnW s ||| m = sgnW s + m := by
  refine nat_join 63 _ _ ?_ hm
  cases s <;> decide
theorem sgnW_lt (s : Bool) : sgnW s ≤ 9223372036854775808 := by cases s <;> decide
theorem not52 (N : Nat) (hN : N < 18446744073709551616) : N &&& (18446744073709551615 - 4503599627370496) = N / 9007199254740992 * 9007199254740992 + N % 4503599627370496 := by
  have h1 : (N &&& 18442240474082181119) / 2 ^ 53 = (N / 2 ^ 53) &&& (2 ^ 11 - 1) := by
    rw [Nat.and_div_two_pow]
  have h2 : (N &&& 18442240474082181119) % 2 ^ 53 = (N % 2 ^ 53) &&& (2 ^ 52 - 1) := by
    rw [Nat.and_mod_two_pow]
  rw [Nat.and_two_pow_sub_one_eq_mod] at h1 h2
  show N &&& 18442240474082181119 = _
  have e53 : (2 : Nat) ^ 53 = 9007199254740992 := by decide
  have e52 : (2 : Nat) ^ 52 = 4503599627370496 := by decide
  have e11 : (2 : Nat) ^ 11 = 2048 := by decide
  rw [e53, e11] at h1
  rw [e53, e52] at h2
  omega
theorem pack_or (s : Bool) (m k : Nat) (hm : m < 9007199254740992) (h52 : 4503599627370496 ≤ m) (hk : k < 2048) :
    ((sgnW s + m) &&& (18446744073709551615 - 4503599627370496)) ||| (k * 4503599627370496) = sgnW s + (m - 4503599627370496 + k * 4503599627370496) := by
  rw [not52 _ (by have := sgnW_lt s; omega)]
  have e : (sgnW s + m) / 9007199254740992 * 9007199254740992 + (sgnW s + m) % 4503599627370496 = sgnW s + (m - 4503599627370496) := by
    unfold sgnW; cases s <;> simp <;> omega
  rw [e, ← sgnW_or s _ (by omega), Nat.or_assoc, Nat.or_comm (m - 4503599627370496)]
  rw [nat_join 52 (k * 4503599627370496) (m - 4503599627370496) (by show k * 4503599627370496 % 4503599627370496 = 0; exact Nat.mul_mod_left _ _) (by show m - 4503599627370496 < 4503599627370496; omega)]
  rw [sgnW_or s _ (by omega), Nat.add_comm (k * _)]

/-- pack64: the rung of the result -/
def packR (m : Nat) (e : Int) : Nat :=
  if m < 4503599627370496 then m else if 972 ≤ e then 9218868437227405312 else m - 4503599627370496 + (1075 + e).toNat * 4503599627370496

def errOf (r : Nat) : Value := if r = 9218868437227405312 then .iface 83 (.int .i64 1) else .nilIface

theorem packR_fin {m : Nat} {e : Int} (hm : m < 9007199254740992) (h : m < 4503599627370496 ∨ e < 972) : packR m e < 9218868437227405312 := by
  unfold packR
  by_cases h1 : m < 4503599627370496
  · rw [if_pos h1]; omega
  · rw [if_neg h1, if_neg (by omega)]
    have : (1075 + e).toNat ≤ 2046 := by omega
    have := Nat.mul_le_mul_right 4503599627370496 this
    omega
theorem packR_le {m : Nat} {e : Int} (hm : m < 9007199254740992) : packR m e ≤ 9218868437227405312 := by
  by_cases h1 : m < 4503599627370496
  · exact Nat.le_of_lt (packR_fin hm (.inl h1))
  · by_cases h2 : e < 972
    · exact Nat.le_of_lt (packR_fin hm (.inr h2))
    · unfold packR; rw [if_neg h1, if_pos (by omega)]; exact Nat.le_refl _

theorem ret2v {a b c d : Value} (h1 : a = c) (h2 : b = d) : Ending.returned (.tuple #[a, b]) = Ending.returned (.tuple #[c, d]) := by rw [h1, h2]

set_option maxHeartbeats 1000000 in
set_option maxRecDepth 100000 in
theorem pack_any (m : Nat) (e : Int) (s : Bool) (w : World) (hm : m < 9007199254740992) (h1 : -1074 ≤ e) (h2 : e ≤ 1200) :
   Calls Tryz.prog 92 #[.int .u64 (sgnW s + m : Nat), .int .i64 e] w fun r w' => r = .returned (.tuple #[.float .f64 (Fl.sg s (packR m e)), errOf (packR m e)]) ∧ w = w' := by
  obtain ⟨M, hM⟩ : ∃ M : Int, M = (sgnW s + m : Nat) := ⟨_, rfl⟩
  rw [← hM]
  have hM' := Lib.hid hM
  have hm' := Lib.hid hm
  have hs := sgnW_lt s
  have ht : (bits .and .u64 M 4503599627370496 == 0) = decide (m < 4503599627370496) := by
    rw [hM]
    have e := u64_and_nat (sgnW s + m) 4503599627370496 (by omega) (by decide)
    rw [bit52 s m hm] at e
    have e2 : bits .and .u64 ((sgnW s + m : Nat) : Int) 4503599627370496 = ((m / 4503599627370496 * 4503599627370496 : Nat) : Int) := e
    rw [e2]
    by_cases h : m < 4503599627370496
    · rw [decide_eq_true h, Nat.div_eq_of_lt h]; rfl
    · rw [decide_eq_false h, beq_eq_false_iff_ne]; omega
  have ht' := Lib.hid ht
  clear hM hm ht hs
  have C58 := call58
  go_enter Tryz.func92, Tryz.ntmps92
  cases hc : (bits .and .u64 M 4503599627370496 == 0)
  · by_cases he : 972 ≤ e
    · have hc' := Lib.hid hc
      go_wp2_with fail
      go_ret2
      have hm := hm'.out
      have hs := sgnW_lt s
      have h52 := ht'.out.symm.trans hc'.out
      have hp : packR m e = 9218868437227405312 := by unfold packR; rw [if_neg (of_decide_eq_false h52), if_pos he]
      rw [hp]
      refine ⟨ret2v (congrArg (Value.float FloatKind.f64) ?_) rfl, rfl⟩
      have e1 := u64_and_nat (sgnW s + m) 9223372036854775808 (by omega) (by decide)
      rw [bit63 s m (by omega)] at e1
      have e2 := u64_or_nat (sgnW s) 9218868437227405312 (by omega) (by decide)
      rw [sgnW_or s _ (by decide)] at e2
      show (bits .or .u64 (bits .and .u64 M ((9223372036854775808 : Nat) : Int)) ((9218868437227405312 : Nat) : Int)).toNat = _
      rw [hM'.out, e1, e2, sg_sgnW]
      rfl
    · have hc' := Lib.hid hc
      go_wp2_with fail
      go_ret2
      have hm := hm'.out
      have hs := sgnW_lt s
      have h52 := of_decide_eq_false (ht'.out.symm.trans hc'.out)
      have hp : packR m e = m - 4503599627370496 + (1075 + e).toNat * 4503599627370496 := by unfold packR; rw [if_neg h52, if_neg (by omega)]
      have hf := @packR_fin m e hm (.inr (by omega))
      refine ⟨ret2v (congrArg (Value.float FloatKind.f64) ?_) (by unfold errOf; rw [if_neg (by omega)]; rfl), rfl⟩
      rw [hp]
      have hk : (1075 + e).toNat < 2048 := by omega
      have e1 := u64_andNot_nat (sgnW s + m) 4503599627370496 (by omega) (by decide)
      have e2 := u64_or_nat ((sgnW s + m) &&& (18446744073709551615 - 4503599627370496)) ((1075 + e).toNat * 4503599627370496) (Nat.lt_of_le_of_lt Nat.and_le_left (by omega)) (by omega)
      rw [pack_or s m _ hm (by omega) hk] at e2
      show (bits .or .u64 (bits .andNot .u64 M ((4503599627370496 : Nat) : Int)) _).toNat = _
      rw [hM'.out, e1, sg_sgnW]
      have ek : (1075 + e) * 4503599627370496 = (((1075 + e).toNat * 4503599627370496 : Nat) : Int) := by omega
      rw [ek, e2]
      rfl
  · have hc' := Lib.hid hc
    go_wp2_with fail
    go_ret2
    have hm := hm'.out
    have h52 := of_decide_eq_true (ht'.out.symm.trans hc'.out)
    have hp : packR m e = m := by unfold packR; rw [if_pos h52]
    rw [hp]
    refine ⟨ret2v (congrArg (Value.float FloatKind.f64) ?_) (by unfold errOf; rw [if_neg (by omega)]; rfl), rfl⟩
    show M.toNat = _
    rw [hM'.out, sg_sgnW]
    rfl

end Go.Proofs.YtfmkfnochjeleaaGreatDoor
