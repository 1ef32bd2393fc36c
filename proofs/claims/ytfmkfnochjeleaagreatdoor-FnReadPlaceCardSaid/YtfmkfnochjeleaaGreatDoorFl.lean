import Ieee.Arith
namespace Go.Proofs.YtfmkfnochjeleaaGreatDoor.Fl
open Ieee

abbrev F := Ieee.double
/-- the weight of the sign bit -/
def S : Nat := 9223372036854775808
/-- the rung of infinity -/
def I : Nat := 9218868437227405312

theorem bin : F.binade = 4503599627370496 := by decide
theorem inf : F.infRung = I := by decide
theorem sw : F.signWeight = S := by decide
theorem lp : F.leastPlace = -1074 := by decide
theorem fb : F.fractionBits = 52 := rfl
theorem wd (s : Bool) (r : Nat) : F.word s r = if s then S + r else r := by unfold Format.word; rw [sw]

/-- a word with its sign -/
def sg (s : Bool) (r : Nat) : Nat := if s then S + r else r

/-- the number that a finite rung stands for -/
def mg (b : Nat) : Nat := if b < 4503599627370496 then b else 4503599627370496 + b % 4503599627370496
def pl (b : Nat) : Int := if b < 4503599627370496 then -1074 else -1074 + (b / 4503599627370496 - 1 : Nat)

theorem read_fin {b : Nat} (s : Bool) (h : b < I) : F.read (sg s b) = .number s (mg b) (pl b) := by
  have h' : b < S := by unfold I at h; unfold S; omega
  have h1 : sg s b / F.signWeight % 2 = if s then 1 else 0 := by
    rw [sw]; unfold sg S at *; cases s <;> simp <;> omega
  have h2 : sg s b % F.signWeight = b := by rw [sw]; unfold sg S at *; cases s <;> simp <;> omega
  unfold Format.read
  simp only [h1, h2, bin, inf, lp]
  unfold mg pl
  by_cases c : b < 4503599627370496
  · simp only [c, if_true]; cases s <;> rfl
  · simp only [c, if_false, h, if_true]; cases s <;> rfl

theorem read_inf (s : Bool) : F.read (sg s I) = .infinity s := by cases s <;> decide

theorem mg_lt (b : Nat) : mg b < 2 ^ 53 := by unfold mg; split <;> omega
theorem pl_ge (b : Nat) : -1074 ≤ pl b := by unfold pl; split <;> omega
theorem pl_le (b : Nat) : pl b ≤ -1074 + (b / 4503599627370496 : Nat) := by unfold pl; split <;> omega

/-- the rung of a magnitude -/
def rung (mag : Nat) (place : Int) : Nat :=
  if mag = 0 then 0 else
  let last := max (place + mag.log2 - 52) (-1074)
  let kept := Toward.even.cut false (mag <<< (place - last).toNat) (last - place).toNat
  min ((last + 1074).toNat * 4503599627370496 + kept) I

theorem cut_even (n d : Nat) : Toward.even.cut true n d = Toward.even.cut false n d := rfl

theorem nearest_eq (s : Bool) (mag : Nat) (place : Int) : F.nearest s mag place = sg s (rung mag place) := by
  unfold Format.nearest rung
  by_cases h : mag = 0
  · subst h; simp only [if_true, wd]; rfl
  · simp only [if_neg h, wd, lp, bin, inf]
    cases s
    · rfl
    · rw [cut_even]; rfl

theorem cut_le (n drop b : Nat) (h : n < 2 ^ (b + drop)) : Toward.even.cut false n drop ≤ 2 ^ b := by
  unfold Toward.cut
  simp only
  have hg : ∀ (x : Bool), x.toNat ≤ 1 := fun x => by cases x <;> decide
  by_cases hd : drop ≤ n.log2 + 2
  · rw [Nat.min_eq_left hd, Nat.one_shiftLeft]
    have : n / 2 ^ drop < 2 ^ b := by
      rw [Nat.div_lt_iff_lt_mul (Nat.two_pow_pos _), ← Nat.pow_add]; exact h
    refine Nat.le_trans (Nat.add_le_add_left (hg _) _) this
  · rw [Nat.min_eq_right (by omega), Nat.one_shiftLeft]
    have hn : n < 2 ^ (n.log2 + 2) := by
      by_cases h0 : n = 0
      · subst h0; exact Nat.two_pow_pos _
      · exact Nat.lt_of_lt_of_le (Nat.lt_log2_self (n := n)) (Nat.pow_le_pow_right (by decide) (by omega))
    rw [Nat.div_eq_of_lt hn]
    refine Nat.le_trans (Nat.add_le_add_left (hg _) _) ?_
    have := Nat.two_pow_pos b
    omega

theorem rung_lt (mag : Nat) (place : Int) (h : place + mag.log2 ≤ 1000) : rung mag place < I := by
  unfold rung
  by_cases h0 : mag = 0
  · simp [h0, I]
  simp only [if_neg h0]
  generalize hl : max (place + mag.log2 - 52) (-1074) = last
  have hlast : last ≤ 948 := by omega
  have hk : Toward.even.cut false (mag <<< (place - last).toNat) (last - place).toNat ≤ 2 ^ 53 := by
    apply cut_le
    rw [Nat.shiftLeft_eq]
    have := Nat.lt_log2_self (n := mag)
    calc mag * 2 ^ (place - last).toNat < 2 ^ (mag.log2 + 1) * 2 ^ (place - last).toNat := Nat.mul_lt_mul_of_pos_right this (Nat.two_pow_pos _)
      _ = 2 ^ (mag.log2 + 1 + (place - last).toNat) := by rw [← Nat.pow_add]
      _ ≤ _ := Nat.pow_le_pow_right (by decide) (by omega)
  have : (last + 1074).toNat ≤ 2022 := by omega
  generalize Toward.even.cut false (mag <<< (place - last).toNat) (last - place).toNat = k at *
  unfold I
  have : (last + 1074).toNat * 4503599627370496 ≤ 2022 * 4503599627370496 := Nat.mul_le_mul_right _ this
  omega

theorem rung_le (mag : Nat) (place : Int) : rung mag place ≤ I := by
  unfold rung; split
  · unfold I; omega
  · exact Nat.min_le_right _ _

theorem mul_fin {x y : Nat} (s t : Bool) (hx : x < I) (hy : y < I) : F.mul (sg s x) (sg t y) = some (sg (s ^^ t) (rung (mg x * mg y) (pl x + pl y))) := by
  unfold Format.mul
  rw [read_fin s hx, read_fin t hy]
  simp only [Datum.product, Option.map_some, Format.write, nearest_eq]

def quoM (m n : Nat) : Nat := 2 * ((m <<< (54 + n.log2 - m.log2)) / n) + ((m <<< (54 + n.log2 - m.log2)) % n != 0).toNat

theorem div_fin {x y : Nat} (s : Bool) (hx : x < I) (hy : y < I) (hn : mg y ≠ 0) : F.div (sg s x) y =
    some (sg s (rung (quoM (mg x) (mg y)) (pl x - pl y - (54 + (mg y).log2 - (mg x).log2 : Nat) - 1))) := by
  unfold Format.div
  have := read_fin false hy
  simp only [sg, Bool.false_eq_true, if_false] at this
  rw [read_fin s hx, this]
  simp only [Datum.quotient, if_neg hn, Option.map_some, Format.write, nearest_eq, fb, Bool.xor_false]
  rfl

theorem cmp_neg (a b : Int) : compare (-a) (-b) = compare b a := by
  simp only [compare, compareOfLessAndEq]
  by_cases h : a < b
  · have h1 : ¬ -a < -b := by omega
    have h2 : ¬ -a = -b := by omega
    have h3 : ¬ b < a := by omega
    have h4 : ¬ b = a := by omega
    simp [h1, h2, h3, h4]
  · by_cases e : a = b
    · subst e; simp
    · have h1 : -a < -b := by omega
      have h3 : b < a := by omega
      simp [h1, h3]

theorem signed_true (m u : Nat) : signed true m u = -(signed false m u) := rfl
theorem signed_nonneg (m u : Nat) : 0 ≤ signed false m u := by
  show (0 : Int) ≤ ((m <<< u : Nat) : Int)
  exact Int.natCast_nonneg _

theorem order_pos {x y : Nat} (hx : x < I) (hy : y < I) : ∃ a b : Int, 0 ≤ a ∧ 0 ≤ b ∧ F.order (sg false x) (sg false y) = some (compare a b) ∧
    F.order (sg true x) (sg true y) = some (compare b a) ∧ F.order (sg false x) (sg true y) = some (compare a (-b)) ∧ F.order (sg true x) (sg false y) = some (compare (-a) b) := by
  unfold Format.order
  rw [read_fin true hx, read_fin true hy, read_fin false hx, read_fin false hy]
  simp only [Datum.order, signed_true]
  exact ⟨_, _, signed_nonneg _ _, signed_nonneg _ _, rfl, by rw [cmp_neg], rfl, rfl⟩

theorem order_eq_sg {x y : Nat} (hx : x ≤ I) (hy : y ≤ I) : (F.order (sg true x) (sg true y) == some .eq) = (F.order (sg false x) (sg false y) == some .eq) := by
  by_cases h1 : x = I
  · subst h1
    by_cases h2 : y = I
    · subst h2; decide
    · have hy' : y < I := by omega
      unfold Format.order
      rw [read_inf, read_inf, read_fin true hy', read_fin false hy']
      rfl
  · have hx' : x < I := by omega
    by_cases h2 : y = I
    · subst h2
      unfold Format.order
      rw [read_inf, read_inf, read_fin true hx', read_fin false hx']
      rfl
    · obtain ⟨a, b, _, _, e1, e2, _⟩ := order_pos hx' (show y < I by omega)
      rw [e1, e2]
      simp only [compare, compareOfLessAndEq]
      by_cases h : a < b
      · have h3 : ¬ b < a := by omega
        have h4 : ¬ b = a := by omega
        simp [h, h3, h4]
      · by_cases e : a = b
        · subst e; simp
        · have h3 : b < a := by omega
          simp [h, h3, e]

theorem gt_sg {x y : Nat} (hx : x < I) (hy : y < I) :
    ((F.order (sg true x) (sg false y) == some .gt) || (F.order (sg true x) (sg true y) == some .lt)) =
    ((F.order (sg false x) (sg false y) == some .gt) || (F.order (sg false x) (sg true y) == some .lt)) := by
  obtain ⟨a, b, ha, hb, e1, e2, e3, e4⟩ := order_pos hx hy
  rw [e1, e2, e3, e4]
  simp only [compare, compareOfLessAndEq]
  by_cases h : a < b
  · have h3 : ¬ b < a := by omega
    have h4 : ¬ b = a := by omega
    have h5 : -a < b := by omega
    have h6 : ¬ a < -b := by omega
    have h7 : ¬ a = -b := by omega
    simp [h, h3, h4, h5, h6, h7]
  · by_cases e : a = b
    · subst e
      have h6 : ¬ a < -a := by omega
      by_cases h5 : -a < a
      · have h7 : ¬ a = -a := by omega
        simp [h5, h6, h7]
      · have h8 : a = 0 := by omega
        subst h8; decide
    · have h3 : b < a := by omega
      have h5 : -a < b := by omega
      have h6 : ¬ a < -b := by omega
      have h7 : ¬ a = -b := by omega
      simp [h, h3, e, h5, h6, h7]

theorem log2_mul (m k : Nat) (h : m ≠ 0) : (m * 2 ^ k).log2 = m.log2 + k := by
  refine (Nat.log2_eq_iff (by exact Nat.mul_ne_zero h (Nat.ne_of_gt (Nat.two_pow_pos _)))).2 ⟨?_, ?_⟩
  · rw [Nat.pow_add]; exact Nat.mul_le_mul_right _ (Nat.log2_self_le h)
  · rw [show m.log2 + k + 1 = m.log2 + 1 + k by omega, Nat.pow_add]
    exact Nat.mul_lt_mul_of_pos_right Nat.lt_log2_self (Nat.two_pow_pos _)

/-- times one: the same rung -/
theorem rung_one {b : Nat} (h : b < I) : rung (mg b * 4503599627370496) (pl b + -52) = b := by
  by_cases h0 : mg b = 0
  · have : b = 0 := by unfold mg at h0; split at h0 <;> omega
    subst this; rfl
  have e52 : (4503599627370496 : Nat) = 2 ^ 52 := rfl
  have hL : (mg b * 4503599627370496).log2 = (mg b).log2 + 52 := by rw [e52]; exact log2_mul _ _ h0
  unfold rung
  rw [if_neg (by omega), hL]
  have hlast : max (pl b + -52 + ((mg b).log2 + 52 : Nat) - 52) (-1074) = pl b := by
    by_cases c : b < 4503599627370496
    · have e1 : mg b = b := by unfold mg; rw [if_pos c]
      have e2 : pl b = -1074 := by unfold pl; rw [if_pos c]
      rw [e1, e2]
      have : b.log2 < 52 := (Nat.log2_lt (by omega)).2 (by omega)
      omega
    · have e1 : 4503599627370496 ≤ mg b := by unfold mg; rw [if_neg c]; omega
      have : (mg b).log2 = 52 := (Nat.log2_eq_iff h0).2 ⟨by omega, by have := mg_lt b; omega⟩
      rw [this]
      have := pl_ge b
      omega
  simp only [hlast]
  have e3 : (pl b + -52 - pl b).toNat = 0 := by omega
  have e4 : (pl b - (pl b + -52)).toNat = 52 := by omega
  rw [e3, e4]
  have hk : Toward.even.cut false ((mg b * 4503599627370496) <<< 0) 52 = mg b := by
    have hg : 1 <<< min 52 ((mg b * 4503599627370496).log2 + 2) = 4503599627370496 := by
      rw [hL, Nat.min_eq_left (by omega)]; decide
    unfold Toward.cut
    simp only [Nat.shiftLeft_zero, hg, Nat.mul_div_cancel _ (show 0 < 4503599627370496 by decide), Nat.mul_mod_left]
    simp
  rw [hk]
  unfold mg pl
  by_cases c : b < 4503599627370496
  · simp only [if_pos c]; unfold I; omega
  · simp only [if_neg c]
    unfold I at *
    omega

/-- f *= -1 -/
theorem mul_minus_one {b : Nat} (h : b < I) : F.mul b 13830554455654793216 = some (sg true b) := by
  have := mul_fin (x := b) (y := 4607182418800017408) false true h (by unfold I; omega)
  have e1 : sg true 4607182418800017408 = 13830554455654793216 := by decide
  have e2 : mg 4607182418800017408 = 4503599627370496 := by decide
  have e3 : pl 4607182418800017408 = -52 := by decide
  rw [e1, e2, e3, rung_one h] at this
  exact this

end Go.Proofs.YtfmkfnochjeleaaGreatDoor.Fl
