import Derived.Test.YtfmkfnochjeleaaGreatDoorC2
import Derived.Laws.FloatArith
namespace Go.Proofs.YtfmkfnochjeleaaGreatDoor
open Go.RowKit

namespace Fl
open Ieee
theorem rung_le2 (mag : Nat) (place : Int) (last : Int) (hl : max (place + mag.log2 - 52) (-1074) ≤ last) : rung mag place ≤ (last + 1074).toNat * 4503599627370496 + 9007199254740992 := by
  unfold rung
  by_cases h0 : mag = 0
  · simp [h0]
  simp only [if_neg h0]
  generalize hl2 : max (place + mag.log2 - 52) (-1074) = last0 at *
  have hk : Toward.even.cut false (mag <<< (place - last0).toNat) (last0 - place).toNat ≤ 2 ^ 53 := by
    apply cut_le
    rw [Nat.shiftLeft_eq]
    have := Nat.lt_log2_self (n := mag)
    calc mag * 2 ^ (place - last0).toNat < 2 ^ (mag.log2 + 1) * 2 ^ (place - last0).toNat := Nat.mul_lt_mul_of_pos_right this (Nat.two_pow_pos _)
      _ = 2 ^ (mag.log2 + 1 + (place - last0).toNat) := by rw [← Nat.pow_add]
      _ ≤ _ := Nat.pow_le_pow_right (by decide) (by omega)
  have h3 : (last0 + 1074).toNat ≤ (last + 1074).toNat := by omega
  have h4 := Nat.mul_le_mul_right 4503599627370496 h3
  have h5 : (2 : Nat) ^ 53 = 9007199254740992 := by decide
  rw [h5] at hk
  generalize Toward.even.cut false (mag <<< (place - last0).toNat) (last0 - place).toNat = k at *
  have h7 : (last0 + 1074).toNat * 4503599627370496 + k ≤ (last + 1074).toNat * 4503599627370496 + 9007199254740992 := Nat.add_le_add h4 hk
  exact Nat.le_trans (Nat.min_le_left _ I) h7

theorem pl_rung (mag : Nat) (place : Int) (last : Int) (h0 : -1074 ≤ last) (hl : place + mag.log2 - 52 ≤ last) : pl (rung mag place) ≤ last + 2 := by
  have h := rung_le2 mag place last (by omega)
  have h2 := pl_le (rung mag place)
  have h3 : rung mag place / 4503599627370496 ≤ (last + 1074).toNat + 2 := by omega
  omega

theorem log2_le_of_lt {n k : Nat} (h : n < 2 ^ (k + 1)) : n.log2 ≤ k := by
  by_cases h0 : n = 0
  · subst h0; simp
  · have := (Nat.log2_lt h0).2 h; omega

theorem mgmg (x y : Nat) : (mg x * mg y).log2 ≤ 105 := by
  apply log2_le_of_lt
  have h1 := mg_lt x
  have h2 := mg_lt y
  calc mg x * mg y ≤ 2 ^ 53 * mg y := Nat.mul_le_mul_right _ (Nat.le_of_lt h1)
    _ < 2 ^ 53 * 2 ^ 53 := Nat.mul_lt_mul_of_pos_left h2 (Nat.two_pow_pos _)
    _ = 2 ^ (105 + 1) := by rw [← Nat.pow_add]

theorem quoM_log (m n : Nat) (hm : m < 2 ^ 53) (hn : n < 2 ^ 53) : (quoM m n).log2 ≤ 170 := by
  apply log2_le_of_lt
  unfold quoM
  have hb : ∀ b : Bool, b.toNat ≤ 1 := fun b => by cases b <;> decide
  have h1 : (m <<< (54 + n.log2 - m.log2)) / n ≤ m <<< (54 + n.log2 - m.log2) := Nat.div_le_self _ _
  have hn2 : n.log2 ≤ 52 := log2_le_of_lt hn
  have h2 : m <<< (54 + n.log2 - m.log2) < 2 ^ 160 := by
    rw [Nat.shiftLeft_eq]
    calc m * 2 ^ (54 + n.log2 - m.log2) < 2 ^ 53 * 2 ^ (54 + n.log2 - m.log2) := Nat.mul_lt_mul_of_pos_right hm (Nat.two_pow_pos _)
      _ = 2 ^ (53 + (54 + n.log2 - m.log2)) := by rw [← Nat.pow_add]
      _ ≤ 2 ^ 160 := Nat.pow_le_pow_right (by decide) (by omega)
  have h3 := hb ((m <<< (54 + n.log2 - m.log2)) % n != 0)
  have h4 : (2 : Nat) ^ (170 + 1) = 2 ^ 160 * 2048 := by decide
  omega

theorem neg_sg {b : Nat} (h : b < I) : Op.negFloat .f64 (sg false b) = sg true b := by
  show b ^^^ 2 ^ 63 = 9223372036854775808 + b
  have h' : b < 2 ^ 63 := by unfold I at h; omega
  have e : 2 ^ 63 ^^^ b = 2 ^ 63 + b := by
    have h2 := Nat.two_pow_add_eq_or_of_lt h' 1
    rw [Nat.mul_one] at h2
    rw [h2]
    apply Nat.eq_of_testBit_eq
    intro i
    rw [Nat.testBit_xor, Nat.testBit_or]
    by_cases hi : i = 63
    · subst hi
      rw [Nat.testBit_lt_two_pow h']; simp
    · rw [Nat.testBit_two_pow_of_ne (fun h => hi h.symm)]; simp
  rw [Nat.xor_comm, e]
end Fl

/-- the powers of ten that a float64 holds -/
def fpL : List Nat := [4607182418800017408, 4621819117588971520, 4636737291354636288, 4652007308841189376, 4666723172467343360, 4681608360884174848, 4696837146684686336, 4711630319722168320, 4726483295884279808, 4741671816366391296, 4756540486875873280, 4771362005757984768, 4786511204640096256, 4801453603149578240, 4816244402031689728, 4831355200913801216, 4846369599423283200, 4861130398305394688, 4876203697187506176, 4891288408196988160, 4906019910204099648, 4921056587992461136, 4936209963552724370]
def fp (i : Nat) : Nat := fpL.getD i 4607182418800017408
theorem fp_lt : ∀ i, i < 23 → fp i < Fl.I ∧ Fl.mg (fp i) ≠ 0 ∧ Fl.pl (fp i) ≤ 30 ∧ -60 ≤ Fl.pl (fp i) := by decide +kernel

def exMul (r i : Nat) : Nat := Fl.rung (Fl.mg r * Fl.mg (fp i)) (Fl.pl r + Fl.pl (fp i))
def exDiv (r i : Nat) : Nat := Fl.rung (Fl.quoM (Fl.mg r) (Fl.mg (fp i))) (Fl.pl r - Fl.pl (fp i) - (54 + (Fl.mg (fp i)).log2 - (Fl.mg r).log2 : Nat) - 1)
def exBig (r : Nat) : Bool := (Fl.F.order r 4831355200913801216 == some .gt) || (Fl.F.order r 14054727237768577024 == some .lt)
def ex0 (m : Nat) : Nat := Fl.rung m 0

theorem ex0_ok (m : Nat) (hm : m < 4503599627370496) : ex0 m < Fl.I ∧ Fl.pl (ex0 m) ≤ 2 := by
  have h1 : m.log2 ≤ 51 := Fl.log2_le_of_lt (by show m < 4503599627370496; exact hm)
  exact ⟨Fl.rung_lt _ _ (by omega), by have := Fl.pl_rung m 0 0 (by omega) (by omega); unfold ex0; omega⟩
theorem exMul_ok (r i : Nat) (hi : i < 23) (q : Int) (h0 : -1000 ≤ q) (h1 : q ≤ 500) (hr : Fl.pl r ≤ q) : exMul r i < Fl.I ∧ Fl.pl (exMul r i) ≤ q + 85 := by
  obtain ⟨_, _, f1, f2⟩ := fp_lt i hi
  have := Fl.mgmg r (fp i)
  exact ⟨Fl.rung_lt _ _ (by omega), by have := Fl.pl_rung (Fl.mg r * Fl.mg (fp i)) (Fl.pl r + Fl.pl (fp i)) (q + 83) (by omega) (by omega); unfold exMul; omega⟩
theorem exDiv_ok (r i : Nat) (hi : i < 23) (hr : Fl.pl r ≤ 100) : exDiv r i < Fl.I := by
  obtain ⟨_, _, f1, f2⟩ := fp_lt i hi
  have := Fl.quoM_log (Fl.mg r) (Fl.mg (fp i)) (Fl.mg_lt _) (Fl.mg_lt _)
  exact Fl.rung_lt _ _ (by omega)

/-- atof64exact -/
def ex64 (m : Nat) (p : Int) : Option Nat :=
  if m / 4503599627370496 ≠ 0 then none else
  if p = 0 then some (ex0 m) else
  if 0 < p ∧ p ≤ 37 then
    if 22 < p then (if exBig (exMul (ex0 m) (p - 22).toNat) then none else some (exMul (exMul (ex0 m) (p - 22).toNat) 22))
    else (if exBig (ex0 m) then none else some (exMul (ex0 m) p.toNat))
  else if p < 0 ∧ -22 ≤ p then some (exDiv (ex0 m) (-p).toNat)
  else none

theorem ex64_fin {m : Nat} {p : Int} {r : Nat} (h : ex64 m p = some r) : r < 9218868437227405312 := by
  unfold ex64 at h
  split at h
  · cases h
  · rename_i hm
    have hm' : m < 4503599627370496 := by omega
    obtain ⟨a, b⟩ := ex0_ok m hm'
    split at h
    · cases h; exact a
    · split at h
      · rename_i hp
        split at h
        · rename_i h22
          obtain ⟨c, d⟩ := exMul_ok (ex0 m) (p - 22).toNat (by omega) 2 (by omega) (by omega) b
          split at h
          · cases h
          · cases h; exact (exMul_ok _ 22 (by omega) (2 + 85) (by omega) (by omega) d).1
        · split at h
          · cases h
          · cases h; exact (exMul_ok _ p.toNat (by omega) 2 (by omega) (by omega) b).1
      · split at h
        · cases h; exact exDiv_ok _ _ (by omega) (by omega)
        · cases h

theorem big_sg (s : Bool) {r : Nat} (hr : r < Fl.I) : ((Fl.F.order (Fl.sg s r) 4831355200913801216 == some .gt) || (Fl.F.order (Fl.sg s r) 14054727237768577024 == some .lt)) = exBig r := by
  have h := Fl.gt_sg hr (y := 4831355200913801216) (by decide)
  cases s
  · rfl
  · exact h

/-- float64pow10 in memory -/
def FpTab (w : World) : Prop := ∃ a o, w.cell? ⟨9, 0, none⟩ = some (.slice (some ⟨a, o, none⟩) 23 23) ∧ a < w.heap.size ∧ ∀ i, i < 23 → w.cell? ⟨a, o + i, none⟩ = some (.float .f64 (fp i))
/-- float64info in memory -/
def InfoTab (w : World) : Prop := w.cell? ⟨6, 0, none⟩ = some (.int .u64 52) ∧ w.cell? ⟨6, 1, none⟩ = some (.int .u64 11) ∧ w.cell? ⟨6, 2, none⟩ = some (.int .i64 (-1023))

theorem ret2b {a c : Value} (b : Value) (h1 : a = c) : Ending.returned (.tuple #[a, b]) = Ending.returned (.tuple #[c, b]) := by rw [h1]

set_option maxHeartbeats 1000000 in
set_option maxRecDepth 100000 in
theorem exact_any (m : Nat) (p : Int) (neg : Bool) (w : World) (hm : m < 18446744073709551616) (h1 : -345 ≤ p) (h2 : p ≤ 310) (hI : InfoTab w) (hF : FpTab w) :
   Calls Tryz.prog 59 #[.int .u64 m, .int .i64 p, .bool neg] w fun r w' => (∃ x, r = .returned (.tuple #[.float .f64 x, .bool (ex64 m p).isSome]) ∧ (∀ y, ex64 m p = some y → x = Fl.sg neg y)) ∧ w = w' := by
  obtain ⟨a, o, i1, _, i2⟩ := hF
  have i0 := hI.1
  have hI2 := Lib.hid i2
  have hm' := Lib.hid hm
  clear hI i2 hm
  obtain ⟨M, hM⟩ : ∃ M : Int, M = m := ⟨_, rfl⟩
  have m0 : 0 ≤ M := by omega
  have hM' := Lib.hid hM
  rw [← hM]
  clear hM
  go_enter Tryz.func59, Tryz.ntmps59
  cases hq : (M / 4503599627370496 != 0)
  · have hmm : m < 4503599627370496 := by
      have := hM'.out
      simp only [bne_eq_false_iff_eq] at hq
      omega
    obtain ⟨r0, hr0⟩ : ∃ r0, r0 = ex0 m := ⟨_, rfl⟩
    have hok := ex0_ok m hmm
    rw [← hr0] at hok
    have hnear : floatOfInt .f64 M = Fl.sg false r0 := by
      rw [hr0, hM'.out]
      show Ieee.double.nearest (decide ((m : Int) < 0)) (m : Int).natAbs 0 = _
      have e : decide ((m : Int) < 0) = false := by simp only [decide_eq_false_iff_not]; omega
      rw [e, Int.natAbs_natCast, Fl.nearest_eq]
      rfl
    have hneg : ∀ w, (Op.unary .neg (.float .f64 (Fl.sg false r0))).run Tryz.prog w = .ok (.float .f64 (Fl.sg true r0)) w := fun w => by
      show Result.ok (Value.float .f64 (Op.negFloat .f64 (Fl.sg false r0))) w = _
      rw [Fl.neg_sg hok.1]
    have hok' := Lib.hid hok
    have hr0' := Lib.hid hr0
    have hmm' := Lib.hid hmm
    clear hok hr0 hmm
    have ho : ∀ s, Hid (((FloatKind.f64.format.order (Fl.sg s r0) 4831355200913801216 == some .gt) || (FloatKind.f64.format.order (Fl.sg s r0) 14054727237768577024 == some .lt)) = exBig r0) := fun s => big_sg s hok'.out.1
    cases neg
    · go_upto_block 0 with fail
      clear hnear hneg
      by_cases hp0 : p = 0
      · subst hp0
        go_wp2_with fail
        go_ret2
        have he : ex64 m 0 = some r0 := by
          have hm2 := hmm'.out
          unfold ex64
          rw [if_neg (by omega), if_pos rfl, ← hr0'.out]
        refine ⟨⟨Fl.sg false r0, ?_, ?_⟩, rfl⟩
        · rw [he]; rfl
        · intro y hy; rw [he] at hy; cases hy; rfl
      have hp0b : (p == 0) = false := by simpa using hp0
      by_cases hpos : 0 < p
      · by_cases h37 : p ≤ 37
        · by_cases h22 : 22 < p
          · have HR := hok'.out.1
            obtain ⟨r1, hr1⟩ : ∃ r1, r1 = exMul r0 (p - 22).toNat := ⟨_, rfl⟩
            have hr1' := Lib.hid hr1
            have H1 := exMul_ok r0 (p - 22).toNat (by omega) 2 (by omega) (by omega) hok'.out.2
            rw [← hr1] at H1
            have ho_r1 : ∀ s, Hid (((FloatKind.f64.format.order (Fl.sg s r1) 4831355200913801216 == some .gt) || (FloatKind.f64.format.order (Fl.sg s r1) 14054727237768577024 == some .lt)) = exBig r1) := fun s => big_sg s H1.1
            have hc1 := hI2.out (p - 22).toNat (by omega)
            have hc2 := hI2.out 22 (by omega)
            have hmul1 : ∀ t w, (binOp .mul t (.float .f64 (Fl.sg false r0)) (.float .f64 (fp (p - 22).toNat))).run Tryz.prog w = .ok (.float .f64 (Fl.sg false r1)) w := fun t w =>
              run_float_arith w .mul t .f64 _ _ _ (by rw [hr1]; exact Fl.mul_fin false false HR (fp_lt (p - 22).toNat (by omega)).1)
            have hmul2 : ∀ t w, (binOp .mul t (.float .f64 (Fl.sg false r1)) (.float .f64 (fp 22))).run Tryz.prog w = .ok (.float .f64 (Fl.sg false (exMul r1 22))) w := fun t w =>
              run_float_arith w .mul t .f64 _ _ _ (Fl.mul_fin false false H1.1 (fp_lt 22 (by omega)).1)
            clear HR hr1 H1
            have hob := ho_r1 false
            cases hg : (FloatKind.f64.format.order (Fl.sg false r1) 4831355200913801216 == some .gt)
            · cases hl : (FloatKind.f64.format.order (Fl.sg false r1) 14054727237768577024 == some .lt)
              · have hb : Hid (exBig r1 = false) := by have := hob.out; rw [hg, hl] at this; exact this.symm
                have hg2 : ¬ FloatKind.f64.format.order (Fl.sg false r1) 4831355200913801216 = some .gt := by intro h; rw [h] at hg; cases hg
                have hg3 := Lib.hid hg
                go_wp2_with fail
                go_ret2
                refine ⟨⟨Fl.sg false (exMul r1 22), ?_, ?_⟩, rfl⟩
                · have he : ex64 m p = some (exMul r1 22) := by
                    have hb2 := hb.out
                    have hm2 := hmm'.out
                    unfold ex64
                    rw [if_neg (by omega), if_neg (by omega), if_pos (by omega), if_pos (by omega), ← hr0'.out, ← hr1'.out, hb2]
                    rfl
                  rw [he]; rfl
                · intro y hy
                  have he : ex64 m p = some (exMul r1 22) := by
                    have hb2 := hb.out
                    have hm2 := hmm'.out
                    unfold ex64
                    rw [if_neg (by omega), if_neg (by omega), if_pos (by omega), if_pos (by omega), ← hr0'.out, ← hr1'.out, hb2]
                    rfl
                  rw [he] at hy; cases hy; rfl
              · have hb : Hid (exBig r1 = true) := by have := hob.out; rw [hg, hl] at this; exact this.symm
                have hg2 : ¬ FloatKind.f64.format.order (Fl.sg false r1) 4831355200913801216 = some .gt := by intro h; rw [h] at hg; cases hg
                go_wp2_with fail
                go_ret2
                refine ⟨⟨Fl.sg false r1, ?_, ?_⟩, rfl⟩
                · have he : ex64 m p = none := by
                    have hb2 := hb.out
                    have hm2 := hmm'.out
                    unfold ex64
                    rw [if_neg (by omega), if_neg (by omega), if_pos (by omega), if_pos (by omega), ← hr0'.out, ← hr1'.out, hb2]
                    rfl
                  rw [he]; rfl
                · intro y hy
                  have he : ex64 m p = none := by
                    have hb2 := hb.out
                    have hm2 := hmm'.out
                    unfold ex64
                    rw [if_neg (by omega), if_neg (by omega), if_pos (by omega), if_pos (by omega), ← hr0'.out, ← hr1'.out, hb2]
                    rfl
                  rw [he] at hy; cases hy
            · have hb : Hid (exBig r1 = true) := by have := hob.out; rw [hg] at this; exact this.symm
              have hg2 : FloatKind.f64.format.order (Fl.sg false r1) 4831355200913801216 = some .gt := by simpa using hg
              go_wp2_with fail
              go_ret2
              refine ⟨⟨Fl.sg false r1, ?_, ?_⟩, rfl⟩
              · have he : ex64 m p = none := by
                  have hb2 := hb.out
                  have hm2 := hmm'.out
                  unfold ex64
                  rw [if_neg (by omega), if_neg (by omega), if_pos (by omega), if_pos (by omega), ← hr0'.out, ← hr1'.out, hb2]
                  rfl
                rw [he]; rfl
              · intro y hy
                have he : ex64 m p = none := by
                  have hb2 := hb.out
                  have hm2 := hmm'.out
                  unfold ex64
                  rw [if_neg (by omega), if_neg (by omega), if_pos (by omega), if_pos (by omega), ← hr0'.out, ← hr1'.out, hb2]
                  rfl
                rw [he] at hy; cases hy
          · have HR := hok'.out.1
            have ho_r0 := ho
            have hc1 := hI2.out p.toNat (by omega)
            have hmul1 : ∀ t w, (binOp .mul t (.float .f64 (Fl.sg false r0)) (.float .f64 (fp p.toNat))).run Tryz.prog w = .ok (.float .f64 (Fl.sg false (exMul r0 p.toNat))) w := fun t w =>
              run_float_arith w .mul t .f64 _ _ _ (Fl.mul_fin false false HR (fp_lt p.toNat (by omega)).1)
            clear HR
            have hob := ho_r0 false
            cases hg : (FloatKind.f64.format.order (Fl.sg false r0) 4831355200913801216 == some .gt)
            · cases hl : (FloatKind.f64.format.order (Fl.sg false r0) 14054727237768577024 == some .lt)
              · have hb : Hid (exBig r0 = false) := by have := hob.out; rw [hg, hl] at this; exact this.symm
                have hg2 : ¬ FloatKind.f64.format.order (Fl.sg false r0) 4831355200913801216 = some .gt := by intro h; rw [h] at hg; cases hg
                have hg3 := Lib.hid hg
                go_wp2_with fail
                go_ret2
                refine ⟨⟨Fl.sg false (exMul r0 p.toNat), ?_, ?_⟩, rfl⟩
                · have he : ex64 m p = some (exMul r0 p.toNat) := by
                    have hb2 := hb.out
                    have hm2 := hmm'.out
                    unfold ex64
                    rw [if_neg (by omega), if_neg (by omega), if_pos (by omega), if_neg (by omega), ← hr0'.out, hb2]
                    rfl
                  rw [he]; rfl
                · intro y hy
                  have he : ex64 m p = some (exMul r0 p.toNat) := by
                    have hb2 := hb.out
                    have hm2 := hmm'.out
                    unfold ex64
                    rw [if_neg (by omega), if_neg (by omega), if_pos (by omega), if_neg (by omega), ← hr0'.out, hb2]
                    rfl
                  rw [he] at hy; cases hy; rfl
              · have hb : Hid (exBig r0 = true) := by have := hob.out; rw [hg, hl] at this; exact this.symm
                have hg2 : ¬ FloatKind.f64.format.order (Fl.sg false r0) 4831355200913801216 = some .gt := by intro h; rw [h] at hg; cases hg
                go_wp2_with fail
                go_ret2
                refine ⟨⟨Fl.sg false r0, ?_, ?_⟩, rfl⟩
                · have he : ex64 m p = none := by
                    have hb2 := hb.out
                    have hm2 := hmm'.out
                    unfold ex64
                    rw [if_neg (by omega), if_neg (by omega), if_pos (by omega), if_neg (by omega), ← hr0'.out, hb2]
                    rfl
                  rw [he]; rfl
                · intro y hy
                  have he : ex64 m p = none := by
                    have hb2 := hb.out
                    have hm2 := hmm'.out
                    unfold ex64
                    rw [if_neg (by omega), if_neg (by omega), if_pos (by omega), if_neg (by omega), ← hr0'.out, hb2]
                    rfl
                  rw [he] at hy; cases hy
            · have hb : Hid (exBig r0 = true) := by have := hob.out; rw [hg] at this; exact this.symm
              have hg2 : FloatKind.f64.format.order (Fl.sg false r0) 4831355200913801216 = some .gt := by simpa using hg
              go_wp2_with fail
              go_ret2
              refine ⟨⟨Fl.sg false r0, ?_, ?_⟩, rfl⟩
              · have he : ex64 m p = none := by
                  have hb2 := hb.out
                  have hm2 := hmm'.out
                  unfold ex64
                  rw [if_neg (by omega), if_neg (by omega), if_pos (by omega), if_neg (by omega), ← hr0'.out, hb2]
                  rfl
                rw [he]; rfl
              · intro y hy
                have he : ex64 m p = none := by
                  have hb2 := hb.out
                  have hm2 := hmm'.out
                  unfold ex64
                  rw [if_neg (by omega), if_neg (by omega), if_pos (by omega), if_neg (by omega), ← hr0'.out, hb2]
                  rfl
                rw [he] at hy; cases hy
        · have he : Hid (ex64 m p = none) := by
            show _ = _
            have hm2 := hmm'.out
            unfold ex64
            rw [if_neg (by omega), if_neg (by omega), if_neg (by omega), if_neg (by omega)]
          go_wp2_with fail
          go_ret2
          refine ⟨⟨Fl.sg false r0, ?_, ?_⟩, rfl⟩
          · rw [he.out]; rfl
          · intro y hy; rw [he.out] at hy; cases hy
      · by_cases hm22 : -22 ≤ p
        · have HR := hok'.out
          have hc1 := hI2.out (-p).toNat (by omega)
          have hdiv : ∀ t w, (binOp .quo t (.float .f64 (Fl.sg false r0)) (.float .f64 (fp (-p).toNat))).run Tryz.prog w = .ok (.float .f64 (Fl.sg false (exDiv r0 (-p).toNat))) w := fun t w =>
            run_float_arith w .quo t .f64 _ _ _ (Fl.div_fin false HR.1 (fp_lt (-p).toNat (by omega)).1 (fp_lt (-p).toNat (by omega)).2.1)
          have he : Hid (ex64 m p = some (exDiv r0 (-p).toNat)) := by
            show _ = _
            have hm2 := hmm'.out
            unfold ex64
            rw [if_neg (by omega), if_neg (by omega), if_neg (by omega), if_pos (by omega), ← hr0'.out]
          clear HR
          have hp22 : p < 0 := by omega
          go_wp2_with fail
          go_ret2
          refine ⟨⟨Fl.sg false (exDiv r0 (-p).toNat), ?_, ?_⟩, rfl⟩
          · rw [he.out]; rfl
          · intro y hy; rw [he.out] at hy; cases hy; rfl
        · have he : Hid (ex64 m p = none) := by
            show _ = _
            have hm2 := hmm'.out
            unfold ex64
            rw [if_neg (by omega), if_neg (by omega), if_neg (by omega), if_neg (by omega)]
          go_wp2_with fail
          go_ret2
          refine ⟨⟨Fl.sg false r0, ?_, ?_⟩, rfl⟩
          · rw [he.out]; rfl
          · intro y hy; rw [he.out] at hy; cases hy
    · go_upto_block 0 with fail
      clear hnear hneg
      by_cases hp0 : p = 0
      · subst hp0
        go_wp2_with fail
        go_ret2
        have he : ex64 m 0 = some r0 := by
          have hm2 := hmm'.out
          unfold ex64
          rw [if_neg (by omega), if_pos rfl, ← hr0'.out]
        refine ⟨⟨Fl.sg true r0, ?_, ?_⟩, rfl⟩
        · rw [he]; rfl
        · intro y hy; rw [he] at hy; cases hy; rfl
      have hp0b : (p == 0) = false := by simpa using hp0
      by_cases hpos : 0 < p
      · by_cases h37 : p ≤ 37
        · by_cases h22 : 22 < p
          · have HR := hok'.out.1
            obtain ⟨r1, hr1⟩ : ∃ r1, r1 = exMul r0 (p - 22).toNat := ⟨_, rfl⟩
            have hr1' := Lib.hid hr1
            have H1 := exMul_ok r0 (p - 22).toNat (by omega) 2 (by omega) (by omega) hok'.out.2
            rw [← hr1] at H1
            have ho_r1 : ∀ s, Hid (((FloatKind.f64.format.order (Fl.sg s r1) 4831355200913801216 == some .gt) || (FloatKind.f64.format.order (Fl.sg s r1) 14054727237768577024 == some .lt)) = exBig r1) := fun s => big_sg s H1.1
            have hc1 := hI2.out (p - 22).toNat (by omega)
            have hc2 := hI2.out 22 (by omega)
            have hmul1 : ∀ t w, (binOp .mul t (.float .f64 (Fl.sg true r0)) (.float .f64 (fp (p - 22).toNat))).run Tryz.prog w = .ok (.float .f64 (Fl.sg true r1)) w := fun t w =>
              run_float_arith w .mul t .f64 _ _ _ (by rw [hr1]; exact Fl.mul_fin true false HR (fp_lt (p - 22).toNat (by omega)).1)
            have hmul2 : ∀ t w, (binOp .mul t (.float .f64 (Fl.sg true r1)) (.float .f64 (fp 22))).run Tryz.prog w = .ok (.float .f64 (Fl.sg true (exMul r1 22))) w := fun t w =>
              run_float_arith w .mul t .f64 _ _ _ (Fl.mul_fin true false H1.1 (fp_lt 22 (by omega)).1)
            clear HR hr1 H1
            have hob := ho_r1 true
            cases hg : (FloatKind.f64.format.order (Fl.sg true r1) 4831355200913801216 == some .gt)
            · cases hl : (FloatKind.f64.format.order (Fl.sg true r1) 14054727237768577024 == some .lt)
              · have hb : Hid (exBig r1 = false) := by have := hob.out; rw [hg, hl] at this; exact this.symm
                have hg2 : ¬ FloatKind.f64.format.order (Fl.sg true r1) 4831355200913801216 = some .gt := by intro h; rw [h] at hg; cases hg
                have hg3 := Lib.hid hg
                go_wp2_with fail
                go_ret2
                refine ⟨⟨Fl.sg true (exMul r1 22), ?_, ?_⟩, rfl⟩
                · have he : ex64 m p = some (exMul r1 22) := by
                    have hb2 := hb.out
                    have hm2 := hmm'.out
                    unfold ex64
                    rw [if_neg (by omega), if_neg (by omega), if_pos (by omega), if_pos (by omega), ← hr0'.out, ← hr1'.out, hb2]
                    rfl
                  rw [he]; rfl
                · intro y hy
                  have he : ex64 m p = some (exMul r1 22) := by
                    have hb2 := hb.out
                    have hm2 := hmm'.out
                    unfold ex64
                    rw [if_neg (by omega), if_neg (by omega), if_pos (by omega), if_pos (by omega), ← hr0'.out, ← hr1'.out, hb2]
                    rfl
                  rw [he] at hy; cases hy; rfl
              · have hb : Hid (exBig r1 = true) := by have := hob.out; rw [hg, hl] at this; exact this.symm
                have hg2 : ¬ FloatKind.f64.format.order (Fl.sg true r1) 4831355200913801216 = some .gt := by intro h; rw [h] at hg; cases hg
                go_wp2_with fail
                go_ret2
                refine ⟨⟨Fl.sg true r1, ?_, ?_⟩, rfl⟩
                · have he : ex64 m p = none := by
                    have hb2 := hb.out
                    have hm2 := hmm'.out
                    unfold ex64
                    rw [if_neg (by omega), if_neg (by omega), if_pos (by omega), if_pos (by omega), ← hr0'.out, ← hr1'.out, hb2]
                    rfl
                  rw [he]; rfl
                · intro y hy
                  have he : ex64 m p = none := by
                    have hb2 := hb.out
                    have hm2 := hmm'.out
                    unfold ex64
                    rw [if_neg (by omega), if_neg (by omega), if_pos (by omega), if_pos (by omega), ← hr0'.out, ← hr1'.out, hb2]
                    rfl
                  rw [he] at hy; cases hy
            · have hb : Hid (exBig r1 = true) := by have := hob.out; rw [hg] at this; exact this.symm
              have hg2 : FloatKind.f64.format.order (Fl.sg true r1) 4831355200913801216 = some .gt := by simpa using hg
              go_wp2_with fail
              go_ret2
              refine ⟨⟨Fl.sg true r1, ?_, ?_⟩, rfl⟩
              · have he : ex64 m p = none := by
                  have hb2 := hb.out
                  have hm2 := hmm'.out
                  unfold ex64
                  rw [if_neg (by omega), if_neg (by omega), if_pos (by omega), if_pos (by omega), ← hr0'.out, ← hr1'.out, hb2]
                  rfl
                rw [he]; rfl
              · intro y hy
                have he : ex64 m p = none := by
                  have hb2 := hb.out
                  have hm2 := hmm'.out
                  unfold ex64
                  rw [if_neg (by omega), if_neg (by omega), if_pos (by omega), if_pos (by omega), ← hr0'.out, ← hr1'.out, hb2]
                  rfl
                rw [he] at hy; cases hy
          · have HR := hok'.out.1
            have ho_r0 := ho
            have hc1 := hI2.out p.toNat (by omega)
            have hmul1 : ∀ t w, (binOp .mul t (.float .f64 (Fl.sg true r0)) (.float .f64 (fp p.toNat))).run Tryz.prog w = .ok (.float .f64 (Fl.sg true (exMul r0 p.toNat))) w := fun t w =>
              run_float_arith w .mul t .f64 _ _ _ (Fl.mul_fin true false HR (fp_lt p.toNat (by omega)).1)
            clear HR
            have hob := ho_r0 true
            cases hg : (FloatKind.f64.format.order (Fl.sg true r0) 4831355200913801216 == some .gt)
            · cases hl : (FloatKind.f64.format.order (Fl.sg true r0) 14054727237768577024 == some .lt)
              · have hb : Hid (exBig r0 = false) := by have := hob.out; rw [hg, hl] at this; exact this.symm
                have hg2 : ¬ FloatKind.f64.format.order (Fl.sg true r0) 4831355200913801216 = some .gt := by intro h; rw [h] at hg; cases hg
                have hg3 := Lib.hid hg
                go_wp2_with fail
                go_ret2
                refine ⟨⟨Fl.sg true (exMul r0 p.toNat), ?_, ?_⟩, rfl⟩
                · have he : ex64 m p = some (exMul r0 p.toNat) := by
                    have hb2 := hb.out
                    have hm2 := hmm'.out
                    unfold ex64
                    rw [if_neg (by omega), if_neg (by omega), if_pos (by omega), if_neg (by omega), ← hr0'.out, hb2]
                    rfl
                  rw [he]; rfl
                · intro y hy
                  have he : ex64 m p = some (exMul r0 p.toNat) := by
                    have hb2 := hb.out
                    have hm2 := hmm'.out
                    unfold ex64
                    rw [if_neg (by omega), if_neg (by omega), if_pos (by omega), if_neg (by omega), ← hr0'.out, hb2]
                    rfl
                  rw [he] at hy; cases hy; rfl
              · have hb : Hid (exBig r0 = true) := by have := hob.out; rw [hg, hl] at this; exact this.symm
                have hg2 : ¬ FloatKind.f64.format.order (Fl.sg true r0) 4831355200913801216 = some .gt := by intro h; rw [h] at hg; cases hg
                go_wp2_with fail
                go_ret2
                refine ⟨⟨Fl.sg true r0, ?_, ?_⟩, rfl⟩
                · have he : ex64 m p = none := by
                    have hb2 := hb.out
                    have hm2 := hmm'.out
                    unfold ex64
                    rw [if_neg (by omega), if_neg (by omega), if_pos (by omega), if_neg (by omega), ← hr0'.out, hb2]
                    rfl
                  rw [he]; rfl
                · intro y hy
                  have he : ex64 m p = none := by
                    have hb2 := hb.out
                    have hm2 := hmm'.out
                    unfold ex64
                    rw [if_neg (by omega), if_neg (by omega), if_pos (by omega), if_neg (by omega), ← hr0'.out, hb2]
                    rfl
                  rw [he] at hy; cases hy
            · have hb : Hid (exBig r0 = true) := by have := hob.out; rw [hg] at this; exact this.symm
              have hg2 : FloatKind.f64.format.order (Fl.sg true r0) 4831355200913801216 = some .gt := by simpa using hg
              go_wp2_with fail
              go_ret2
              refine ⟨⟨Fl.sg true r0, ?_, ?_⟩, rfl⟩
              · have he : ex64 m p = none := by
                  have hb2 := hb.out
                  have hm2 := hmm'.out
                  unfold ex64
                  rw [if_neg (by omega), if_neg (by omega), if_pos (by omega), if_neg (by omega), ← hr0'.out, hb2]
                  rfl
                rw [he]; rfl
              · intro y hy
                have he : ex64 m p = none := by
                  have hb2 := hb.out
                  have hm2 := hmm'.out
                  unfold ex64
                  rw [if_neg (by omega), if_neg (by omega), if_pos (by omega), if_neg (by omega), ← hr0'.out, hb2]
                  rfl
                rw [he] at hy; cases hy
        · have he : Hid (ex64 m p = none) := by
            show _ = _
            have hm2 := hmm'.out
            unfold ex64
            rw [if_neg (by omega), if_neg (by omega), if_neg (by omega), if_neg (by omega)]
          go_wp2_with fail
          go_ret2
          refine ⟨⟨Fl.sg true r0, ?_, ?_⟩, rfl⟩
          · rw [he.out]; rfl
          · intro y hy; rw [he.out] at hy; cases hy
      · by_cases hm22 : -22 ≤ p
        · have HR := hok'.out
          have hc1 := hI2.out (-p).toNat (by omega)
          have hdiv : ∀ t w, (binOp .quo t (.float .f64 (Fl.sg true r0)) (.float .f64 (fp (-p).toNat))).run Tryz.prog w = .ok (.float .f64 (Fl.sg true (exDiv r0 (-p).toNat))) w := fun t w =>
            run_float_arith w .quo t .f64 _ _ _ (Fl.div_fin true HR.1 (fp_lt (-p).toNat (by omega)).1 (fp_lt (-p).toNat (by omega)).2.1)
          have he : Hid (ex64 m p = some (exDiv r0 (-p).toNat)) := by
            show _ = _
            have hm2 := hmm'.out
            unfold ex64
            rw [if_neg (by omega), if_neg (by omega), if_neg (by omega), if_pos (by omega), ← hr0'.out]
          clear HR
          have hp22 : p < 0 := by omega
          go_wp2_with fail
          go_ret2
          refine ⟨⟨Fl.sg true (exDiv r0 (-p).toNat), ?_, ?_⟩, rfl⟩
          · rw [he.out]; rfl
          · intro y hy; rw [he.out] at hy; cases hy; rfl
        · have he : Hid (ex64 m p = none) := by
            show _ = _
            have hm2 := hmm'.out
            unfold ex64
            rw [if_neg (by omega), if_neg (by omega), if_neg (by omega), if_neg (by omega)]
          go_wp2_with fail
          go_ret2
          refine ⟨⟨Fl.sg true r0, ?_, ?_⟩, rfl⟩
          · rw [he.out]; rfl
          · intro y hy; rw [he.out] at hy; cases hy
  · have hm2 : ¬ m / 4503599627370496 = 0 := by
      have := hM'.out
      simp only [bne_iff_ne, ne_eq] at hq
      omega
    have he : Hid (ex64 m p = none) := by
      show _ = _
      unfold ex64
      rw [if_pos hm2]
    go_wp2_with fail
    go_ret2
    refine ⟨⟨0, ?_, ?_⟩, rfl⟩
    · rw [he.out]; rfl
    · intro y hy; rw [he.out] at hy; cases hy

end Go.Proofs.YtfmkfnochjeleaaGreatDoor
