import Derived.Test.YtfmkfnochjeleaaGreatDoorB3
import Derived.Laws.BitsAllLaws
import Derived.Lib.Mul64
import Derived.Laws.Bits64b
import GoSem.PinnedTables
import Derived.BigQuiet
import Derived.Lib.Slices
import Derived.Lib.Small
import Derived.Lib.Walk
import Derived.Lib.BitFns
namespace Go.Proofs.YtfmkfnochjeleaaGreatDoor
open Go.RowKit

theorem t8 (b : Int) (h0 : 0 ≤ b) (h1 : b ≤ 255) (hp : b.toNat < Lib.len8tab.size) : ((Lib.len8tab[b.toNat]'hp).toNat : Int) = (Lib.bitLen b.toNat : Int) := by
  have h := Lib.len8_of b h0 h1
  unfold Lib.len8 at h
  rw [getElem?_pos Lib.len8tab b.toNat hp] at h
  exact h

theorem wrap_small (n : Int) (h0 : 0 ≤ n) (h1 : n ≤ 1000) : wrap64 n = n := by
  unfold wrap64
  omega

theorem lenv (x : Int) (h0 : 0 ≤ x) (h : x ≤ 18446744073709551615) (k : Nat) (kk : Int) (hkk : kk = k) (b : Int) (hk : k ≤ 56) (hb : b = x / (2 ^ k : Nat)) (h2 : ((2 ^ k : Nat) : Int) ≤ x) (h1 : b ≤ 255) (hp : b.toNat < Lib.len8tab.size) :
    wrap64 (kk + wrap64 ((Lib.len8tab[b.toNat]'hp).toNat : Int)) = (Lib.bitLen x.toNat : Int) := by
  have hb0 : 0 ≤ b := by rw [hb]; exact Int.ediv_nonneg h0 (Int.natCast_nonneg _)
  have l := Lib.bitLen_le8' b hb0 h1
  have s := Lib.bitLen_shift k x.toNat (by omega) (by omega)
  have e : x.toNat / 2 ^ k = b.toNat := by
    have : (x.toNat : Int) = x := Int.toNat_of_nonneg h0
    have h3 : ((x.toNat / 2 ^ k : Nat) : Int) = b := by rw [hb, Int.natCast_ediv, this]
    omega
  rw [e] at s
  rw [t8 b hb0 h1 hp, wrap_small _ (Int.natCast_nonneg _) (by omega), wrap_small _ (by omega) (by omega), s]
  omega
theorem lenv0 (x : Int) (h0 : 0 ≤ x) (h1 : x ≤ 255) (hp : x.toNat < Lib.len8tab.size) :
    wrap64 (wrap64 ((Lib.len8tab[x.toNat]'hp).toNat : Int)) = (Lib.bitLen x.toNat : Int) := by
  rw [t8 x h0 h1 hp]
  have l := Lib.bitLen_le8' x h0 h1
  rw [wrap_small _ (Int.natCast_nonneg _) (by omega), wrap_small _ (Int.natCast_nonneg _) (by omega)]

set_option maxHeartbeats 4000000 in
set_option maxRecDepth 100000 in
theorem len_int (x : Int) (w : World) (h0 : 0 ≤ x) (h : x ≤ 18446744073709551615) :
   Calls Tryz.prog 82 #[.int .u64 x] w fun e w' => e = .returned (.int .i64 (Lib.bitLen x.toNat)) ∧ w = w' := by
  have hsz : Lib.len8tab.size = 256 := Lib.len8tab_size
  go_enter Tryz.func82, Tryz.ntmps82
  go_wp2
  all_goals go_ret
  all_goals refine ⟨congrArg Ending.returned (congrArg (Value.int IntKind.i64) ?_), rfl⟩
  all_goals first
    | exact lenv0 x h0 (by omega) _
    | exact lenv x h0 h 8 _ rfl _ (by decide) (by omega) (by omega) (by omega) _
    | exact lenv x h0 h 16 _ rfl _ (by decide) (by omega) (by omega) (by omega) _
    | exact lenv x h0 h 24 _ rfl _ (by decide) (by omega) (by omega) (by omega) _
    | exact lenv x h0 h 32 _ rfl _ (by decide) (by omega) (by omega) (by omega) _
    | exact lenv x h0 h 40 _ rfl _ (by decide) (by omega) (by omega) (by omega) _
    | exact lenv x h0 h 48 _ rfl _ (by decide) (by omega) (by omega) (by omega) _
    | exact lenv x h0 h 56 _ rfl _ (by decide) (by omega) (by omega) (by omega) _

theorem len_any (x : Nat) (w : World) (h : x < 18446744073709551616) :
   Calls Tryz.prog 82 #[.int .u64 x] w fun e w' => e = .returned (.int .i64 (Lib.bitLen x)) ∧ w = w' :=
  len_int x w (by omega) (by omega)

theorem bitLenAux_two : ∀ (f x : Nat), 0 < x → x < 2 ^ f → 0 < Lib.bitLenAux f x ∧ 2 ^ (Lib.bitLenAux f x - 1) ≤ x ∧ x < 2 ^ Lib.bitLenAux f x
  | 0, x, h0, h => by simp at h; omega
  | f + 1, x, h0, h => by
    simp only [Lib.bitLenAux, if_neg (show ¬ x = 0 by omega)]
    by_cases h1 : x / 2 = 0
    · rw [h1]
      cases f with
      | zero => simp [Lib.bitLenAux]; omega
      | succ f => simp [Lib.bitLenAux]; omega
    · obtain ⟨a, b, c⟩ := bitLenAux_two f (x / 2) (by omega) (by rw [Nat.pow_succ] at h; omega)
      obtain ⟨n, hn⟩ : ∃ n, Lib.bitLenAux f (x / 2) = n + 1 := ⟨Lib.bitLenAux f (x / 2) - 1, by omega⟩
      rw [hn] at b c ⊢
      refine ⟨by omega, ?_, ?_⟩
      · rw [show 1 + (n + 1) - 1 = n + 1 by omega, Nat.pow_succ]; simp only [Nat.add_sub_cancel] at b; omega
      · rw [show 1 + (n + 1) = (n + 1) + 1 by omega, Nat.pow_succ]; omega

theorem bitLen_two (x : Nat) (h0 : 0 < x) (h : x < 18446744073709551616) : 0 < Lib.bitLen x ∧ Lib.bitLen x ≤ 64 ∧ 2 ^ (Lib.bitLen x - 1) ≤ x ∧ x < 2 ^ Lib.bitLen x := by
  obtain ⟨a, b, c⟩ := bitLenAux_two 64 x h0 h
  exact ⟨a, Lib.bitLen_le x 64 (Nat.le_refl _) h, b, c⟩

set_option maxHeartbeats 4000000 in
theorem lg_any (p : Int) (w : World) (h1 : -400 ≤ p) (h2 : p ≤ 400) :
    Calls Tryz.prog 83 #[.int .i64 p] w fun e w' => e = .returned (.int .i64 (p * 108853 / 32768)) ∧ w = w' := by
  go_enter Tryz.func83, Tryz.ntmps83
  go_wp2_with fail
  go_ret
  exact ⟨rfl, rfl⟩

theorem b64_any (b : Bool) (w : World) :
    Calls Tryz.prog 57 #[.bool b] w fun e w' => e = .returned (.int .u64 b.toNat) ∧ w = w' := by
  go_enter Tryz.func57, Tryz.ntmps57
  cases b
  all_goals
    go_wp2_with fail
    go_ret
    exact ⟨rfl, rfl⟩

theorem bint_any (b : Bool) (w : World) :
    Calls Tryz.prog 86 #[.bool b] w fun e w' => e = .returned (.int .i64 b.toNat) ∧ w = w' := by
  go_enter Tryz.func86, Tryz.ntmps86
  cases b
  all_goals
    go_wp2_with fail
    go_ret
    exact ⟨rfl, rfl⟩

theorem unmin_any (w : World) :
    Calls Tryz.prog 87 #[.int .u64 9007199254740992] w fun e w' => e = .returned (.int .u64 36028797018963966) ∧ w = w' := by
  go_enter Tryz.func87, Tryz.ntmps87
  go_wp2_with fail
  go_ret
  exact ⟨rfl, rfl⟩

def rnd (u : Nat) : Nat := (u + 1 + u / 4 % 2) / 4

theorem and1 (a : Nat) (ha : a < 18446744073709551616) : bits .and .u64 (a : Int) 1 = ((a % 2 : Nat) : Int) := by
  have h := u64_and_nat a 1 ha (by omega)
  rw [nat_mask1] at h
  exact h

theorem round_any (u : Nat) (w : World) (h : u < 4611686018427387904) :
    Calls Tryz.prog 89 #[.int .u64 u] w fun e w' => e = .returned (.int .u64 (rnd u)) ∧ w = w' := by
  go_enter Tryz.func89, Tryz.ntmps89
  go_wp2_with fail
  have e1 : (u : Int) / 4 = ((u / 4 : Nat) : Int) := by omega
  have e2 : IntKind.u64.wrap ((u : Int) + 1 + ((u / 4 % 2 : Nat) : Int)) / 4 = (rnd u : Int) := by
    rw [IntKind.wrap_u64]; unfold rnd; omega
  simp only [e1, and1 (u / 4) (by omega), e2]
  go_ret
  exact ⟨rfl, rfl⟩

theorem Mul64.maskN (a : Nat) (ha : a < 18446744073709551616) : bits .and .u64 (a : Int) 4294967295 = ((a % 4294967296 : Nat) : Int) := by
  have h := bits_and_u64_nat a 4294967295 ha (by omega)
  have e : a &&& 4294967295 = a % 4294967296 := Nat.and_two_pow_sub_one_eq_mod a 32
  rw [e] at h
  exact h
theorem Mul64.divN (a : Nat) : (a : Int) / 4294967296 = ((a / 4294967296 : Nat) : Int) := by omega
theorem Mul64.mulN (a b : Nat) : (a : Int) * (b : Int) = ((a * b : Nat) : Int) := (Int.natCast_mul a b).symm
theorem Mul64.addN (a b : Nat) : (a : Int) + (b : Int) = ((a + b : Nat) : Int) := (Int.natCast_add a b).symm
theorem Mul64.wrapN (a : Nat) (ha : a < 18446744073709551616) : IntKind.u64.wrap (a : Int) = (a : Int) := by rw [IntKind.wrap_u64]; omega
theorem Mul64.wrapM (a : Nat) : IntKind.u64.wrap (a : Int) = ((a % 18446744073709551616 : Nat) : Int) := by rw [IntKind.wrap_u64]; omega

set_option maxHeartbeats 1000000 in
theorem mul64_any (x y : Nat) (hx : x < 18446744073709551616) (hy : y < 18446744073709551616) (w : World) :
    Calls Tryz.prog 105 #[.int .u64 x, .int .u64 y] w fun e w' => e = .returned (.tuple #[.int .u64 ((x * y / 18446744073709551616 : Nat) : Int), .int .u64 ((x * y % 18446744073709551616 : Nat) : Int)]) ∧ w = w' := by
  obtain ⟨bd, bt, bw, hhi⟩ := Lib.mul64_hi x y hx hy
  have ba := Lib.half_mul_le (a := x / 4294967296) (b := y / 4294967296) (by omega) (by omega)
  have bb := Lib.half_mul_le (a := x / 4294967296) (b := y % 4294967296) (by omega) (by omega)
  have bc := Lib.half_mul_le (a := x % 4294967296) (b := y / 4294967296) (by omega) (by omega)
  have ba' : x / 4294967296 * (y / 4294967296) < 18446744073709551616 := by omega
  have bb' : x / 4294967296 * (y % 4294967296) < 18446744073709551616 := by omega
  have bc' : x % 4294967296 * (y / 4294967296) < 18446744073709551616 := by omega
  have bh1 : x / 4294967296 * (y / 4294967296) + (x / 4294967296 * (y % 4294967296) + x % 4294967296 * (y % 4294967296) / 4294967296) / 4294967296 < 18446744073709551616 := by omega
  have bh : x / 4294967296 * (y / 4294967296) + (x / 4294967296 * (y % 4294967296) + x % 4294967296 * (y % 4294967296) / 4294967296) / 4294967296 + ((x / 4294967296 * (y % 4294967296) + x % 4294967296 * (y % 4294967296) / 4294967296) % 4294967296 + x % 4294967296 * (y / 4294967296)) / 4294967296 < 18446744073709551616 := by omega
  go_enter Tryz.func105, Tryz.ntmps105
  go_wp2
  simp only [Mul64.maskN x hx, Mul64.maskN y hy, Mul64.divN, Mul64.mulN, Mul64.addN, Mul64.wrapN _ bd, Mul64.wrapN _ bb', Mul64.wrapN _ bt, Mul64.maskN _ bt, Mul64.wrapN _ bc', Mul64.wrapN _ bw, Mul64.wrapN _ ba', Mul64.wrapN _ bh1, Mul64.wrapN _ bh, Mul64.wrapM (x * y)]
  rw [hhi]
  go_ret2
  exact ⟨rfl, rfl⟩

/-- the rows of internal/strconv.pow10Tab -/
def pHi (i : Nat) : Nat := ((Go.Pinned.pow10Rows[i]?).getD (0, 0)).1
def pLo (i : Nat) : Nat := ((Go.Pinned.pow10Rows[i]?).getD (0, 0)).2

theorem pRows : ∀ i, i < 696 → pHi i ≤ 18446744073709550592 ∧ pLo i < 18446744073709551616 := by decide +kernel

end Go.Proofs.YtfmkfnochjeleaaGreatDoor
