import Derived.Test.YtfmkfnochjeleaaGreatDoorA5
namespace Go.Proofs.YtfmkfnochjeleaaGreatDoor
open Go.RowKit

/-- lower: c | 0x20 -/
def lowr (c : UInt8) : Int := nb (c ||| 32)
theorem lowr_bits (c : UInt8) : bits .or .u8 (nb c) 32 = lowr c := by
  have key : ∀ n : Nat, n < 256 → bits .or .u8 (n : Int) 32 = (((UInt8.ofNat n ||| 32).toNat : Nat) : Int) := by decide +kernel
  have h := key c.toNat (UInt8.toNat_lt c)
  have e : UInt8.ofNat c.toNat = c := by simp
  rw [e] at h
  exact h
theorem lower_any (c : UInt8) (w : World) : Calls Tryz.prog 80 #[.int .u8 (nb c)] w fun e w' => e = .returned (.int .u8 (lowr c)) ∧ w = w' := by
  go_enter Tryz.func80, Tryz.ntmps80
  go_wp2
  go_ret
  exact ⟨ret_i (lowr_bits c), rfl⟩
theorem lowr_ne (c : UInt8) : (lowr c == 120) = (nb c == 120 || nb c == 88) ∧ (lowr c == 101) = (nb c == 101 || nb c == 69) := by
  have key : ∀ n, n < 256 → (lowr (UInt8.ofNat n) == 120) = (nb (UInt8.ofNat n) == 120 || nb (UInt8.ofNat n) == 88) ∧ (lowr (UInt8.ofNat n) == 101) = (nb (UInt8.ofNat n) == 101 || nb (UInt8.ofNat n) == 69) := by
    decide +kernel
  have h := key c.toNat (UInt8.toNat_lt c)
  have e : UInt8.ofNat c.toNat = c := by simp
  rw [e] at h
  exact h

/-- what the mantissa's loop holds -/
structure MS where
  m : Nat
  nd : Nat
  nm : Nat
  dp : Int
  tr : Bool
  dot : Bool
  sd : Bool
def MS0 : MS := ⟨0, 0, 0, 0, false, false, false⟩
def mstep (x : MS) (c : UInt8) : MS :=
  if nb c == 46 then { x with dot := true, dp := x.nd }
  else if nb c == 48 && x.nd == 0 then { x with sd := true, dp := x.dp - 1 }
  else if x.nm < 19 then { x with sd := true, nd := x.nd + 1, m := x.m * 10 + (c.toNat - 48), nm := x.nm + 1 }
  else if nb c == 48 then { x with sd := true, nd := x.nd + 1 }
  else { x with sd := true, nd := x.nd + 1, tr := true }
def mfold (l : List UInt8) : MS := l.foldl mstep MS0
theorem mfold_snoc (l : List UInt8) (c : UInt8) : mfold (l ++ [c]) = mstep (mfold l) c := by simp [mfold]
def estep (e : Nat) (c : UInt8) : Nat := if e < 10000 then e * 10 + (c.toNat - 48) else e
def efold (l : List UInt8) : Nat := l.foldl estep 0
theorem efold_snoc (l : List UInt8) (c : UInt8) : efold (l ++ [c]) = estep (efold l) c := by simp [efold]
/-- the exponent's number -/
def expv : List UInt8 → Int
  | [] => 0
  | [_] => 0
  | _ :: d :: r => if nb d == 43 then efold r else if nb d == 45 then -efold r else efold (d :: r)
def rfM (l : List UInt8) : MS := mfold (l.take (mant l))
def rfDp (l : List UInt8) : Int := (if (rfM l).dot then (rfM l).dp else (rfM l).nd) + expv (l.drop (mant l))
def rfExp (l : List UInt8) : Int := if (rfM l).m = 0 then 0 else rfDp l - (rfM l).nm

/-- bounds -/
structure MOK (n : Nat) (x : MS) : Prop where
  m : x.m < 10 ^ x.nm
  nm : x.nm ≤ 19
  nd : x.nd ≤ n
  dp : -(n : Int) ≤ x.dp ∧ x.dp ≤ n
  nmnd : x.nm ≤ x.nd
theorem MOK0 : MOK 0 MS0 := ⟨by decide, by decide, by decide, by decide, by decide⟩
theorem MOK.step {n : Nat} {x : MS} (h : MOK n x) (c : UInt8) (hc : dg c = true ∨ nb c = 46) : MOK (n + 1) (mstep x c) := by
  obtain ⟨h1, h2, h3, h4, h5⟩ := h
  unfold mstep
  split
  · exact ⟨h1, h2, by show x.nd ≤ _; omega, by show -(_ : Int) ≤ (x.nd : Int) ∧ (x.nd : Int) ≤ _; omega, h5⟩
  · rename_i h46
    split
    · exact ⟨h1, h2, by show x.nd ≤ _; omega, by show -(_ : Int) ≤ x.dp - 1 ∧ x.dp - 1 ≤ _; omega, h5⟩
    · split
      · rename_i hlt
        refine ⟨?_, by show x.nm + 1 ≤ _; omega, by show x.nd + 1 ≤ _; omega, by show -(_ : Int) ≤ x.dp ∧ x.dp ≤ _; omega, by show x.nm + 1 ≤ x.nd + 1; omega⟩
        show x.m * 10 + (c.toNat - 48) < 10 ^ (x.nm + 1)
        rw [Nat.pow_succ]
        have : c.toNat - 48 ≤ 9 := by
          rcases hc with h | h
          · simp only [dg, decide_eq_true_eq] at h; omega
          · simp [h] at h46
        omega
      · split
        · exact ⟨h1, h2, by show x.nd + 1 ≤ _; omega, by show -(_ : Int) ≤ x.dp ∧ x.dp ≤ _; omega, by show x.nm ≤ x.nd + 1; omega⟩
        · exact ⟨h1, h2, by show x.nd + 1 ≤ _; omega, by show -(_ : Int) ≤ x.dp ∧ x.dp ≤ _; omega, by show x.nm ≤ x.nd + 1; omega⟩
theorem MOK.lt {n : Nat} {x : MS} (h : MOK n x) : x.m < 10000000000000000000 := by
  have := Nat.pow_le_pow_right (show 0 < 10 by decide) h.nm
  have h1 := h.m
  have e : (10 : Nat) ^ 19 = 10000000000000000000 := by decide
  omega
theorem foldl_ok : ∀ (l : List UInt8) (n : Nat) (x : MS), MOK n x → (∀ c ∈ l, dg c = true ∨ nb c = 46) → MOK (n + l.length) (l.foldl mstep x)
  | [], n, x, h, _ => h
  | c :: l, n, x, h, hc => by
    have := foldl_ok l (n + 1) (mstep x c) (h.step c (hc c List.mem_cons_self)) (fun d hd => hc d (List.mem_cons_of_mem _ hd))
    rw [List.length_cons, show n + (l.length + 1) = n + 1 + l.length by omega]
    exact this
theorem mfold_ok (l : List UInt8) (h : ∀ c ∈ l, dg c = true ∨ nb c = 46) : MOK l.length (mfold l) := by
  have := foldl_ok l 0 MS0 MOK0 h
  rwa [Nat.zero_add] at this
theorem efoldl_le : ∀ (l : List UInt8) (e : Nat), e ≤ 99999 → (∀ c ∈ l, dg c = true) → l.foldl estep e ≤ 99999
  | [], _, he, _ => he
  | c :: l, e, he, h => by
    refine efoldl_le l (estep e c) ?_ (fun d hd => h d (List.mem_cons_of_mem _ hd))
    have h2 := h c List.mem_cons_self
    simp only [dg, decide_eq_true_eq] at h2
    unfold estep
    split <;> omega
theorem efold_le (l : List UInt8) (h : ∀ c ∈ l, dg c = true) : efold l ≤ 99999 := efoldl_le l 0 (by decide) h

theorem foldl_sd : ∀ (l : List UInt8) (x : MS), (x.sd = true ∨ ∃ c ∈ l, dg c = true) → (l.foldl mstep x).sd = true
  | [], x, h => by
    rcases h with h | ⟨c, hc, _⟩
    · exact h
    · cases hc
  | c :: l, x, h => by
    refine foldl_sd l (mstep x c) ?_
    rcases h with h | ⟨d, hd, hg⟩
    · left
      unfold mstep
      split
      · exact h
      · split
        · rfl
        · split
          · rfl
          · split <;> rfl
    · rcases List.mem_cons.1 hd with rfl | hd
      · left
        have : ¬ (nb d == 46) = true := by
          simp only [dg, decide_eq_true_eq] at hg
          simp only [beq_iff_eq, nb]; omega
        unfold mstep
        rw [if_neg this]
        split
        · rfl
        · split
          · rfl
          · split <;> rfl
      · exact .inr ⟨d, hd, hg⟩
theorem foldl_dot : ∀ (l : List UInt8) (x : MS), x.dot = false → (∀ c ∈ l, dg c = true) → (l.foldl mstep x).dot = false
  | [], _, h, _ => h
  | c :: l, x, h, hc => by
    refine foldl_dot l (mstep x c) ?_ (fun d hd => hc d (List.mem_cons_of_mem _ hd))
    have hg := hc c List.mem_cons_self
    have : ¬ (nb c == 46) = true := by
      simp only [dg, decide_eq_true_eq] at hg
      simp only [beq_iff_eq, nb]; omega
    unfold mstep
    rw [if_neg this]
    split
    · exact h
    · split
      · exact h
      · split <;> exact h

/-- a decimal's shape, for the reader -/
structure Shape (l : List UInt8) : Prop where
  pos : 1 ≤ mant l
  le : mant l ≤ l.length
  cls : ∀ k (h : k < l.length), k < mant l → dg l[k] = true ∨ nb l[k] = 46
  dot : ∀ k (h : k < l.length), k < mant l → nb l[k] = 46 → (mfold (l.take k)).dot = false
  sd : (mfold (l.take (mant l))).sd = true
  fin : ∀ c r, l.drop (mant l) = c :: r → (nb c == 101 || nb c == 69) = true ∧ ∃ d r', r = d :: r' ∧
      (((nb d == 43 || nb d == 45) = true ∧ r' ≠ [] ∧ ∀ x ∈ r', dg x = true) ∨ ((nb d == 43 || nb d == 45) = false ∧ ∀ x ∈ r, dg x = true))
theorem digs_full {r : List UInt8} (h : digs r = r.length) : ∀ x ∈ r, dg x = true := by
  intro x hx
  obtain ⟨i, hi, rfl⟩ := List.mem_iff_getElem.1 hx
  exact digs_get r i _ (by omega) (List.getElem?_eq_getElem hi)
theorem mem_take_get {l : List UInt8} {k : Nat} {x : UInt8} (h : x ∈ l.take k) : ∃ i, i < k ∧ l[i]? = some x := by
  obtain ⟨i, hi, rfl⟩ := List.mem_iff_getElem.1 h
  rw [List.length_take] at hi
  exact ⟨i, by omega, by rw [List.getElem_take]; exact List.getElem?_eq_getElem (by omega)⟩
theorem mant_dot_at {l : List UInt8} {k : Nat} {c : UInt8} (h : k < mant l) (hc : l[k]? = some c) (h46 : nb c = 46) : k = digs l := by
  unfold mant at h
  have nodg : ¬ dg c = true := by
    intro hg
    simp only [dg, decide_eq_true_eq] at hg
    simp only [nb] at h46; omega
  have hlow : ¬ k < digs l := fun hk => nodg (digs_get l k c hk hc)
  cases hd : l.drop (digs l) with
  | nil => rw [hd] at h; simp only at h; omega
  | cons e r =>
    rw [hd] at h
    simp only at h
    split at h
    · split at h
      · omega
      · refine Decidable.byContradiction fun hne => ?_
        have hget : (l.drop (digs l))[k - digs l]? = some c := by rw [List.getElem?_drop, show digs l + (k - digs l) = k by omega]; exact hc
        rw [hd] at hget
        obtain ⟨q, hq⟩ : ∃ q, k - digs l = q + 1 := ⟨k - digs l - 1, by omega⟩
        rw [hq] at hget
        exact nodg (digs_get r q c (by omega) (by simpa using hget))
    · omega
theorem shape_of {l : List UInt8} (h : IsDec l) : Shape l := by
  obtain ⟨h0, h1⟩ := isDec_mant h
  refine ⟨by omega, mant_le l, fun k hk hm => mant_get l k _ hm (List.getElem?_eq_getElem hk), fun k hk hm h46 => ?_, ?_, fun c r hcr => ?_⟩
  · have hkd := mant_dot_at hm (List.getElem?_eq_getElem hk) h46
    refine foldl_dot _ _ rfl fun x hx => ?_
    obtain ⟨i, hi, hix⟩ := mem_take_get hx
    exact digs_get l i x (by omega) hix
  · refine foldl_sd _ _ (.inr ?_)
    have hlen := mant_le l
    refine Decidable.byContradiction fun hno => ?_
    have all46 : ∀ i (hi : i < l.length), i < mant l → nb l[i] = 46 := fun i hi him => by
      rcases mant_get l i _ him (List.getElem?_eq_getElem hi) with hg | hg
      · exact absurd ⟨l[i], List.mem_iff_getElem.2 ⟨i, by rw [List.length_take]; omega, by rw [List.getElem_take]⟩, hg⟩ hno
      · exact hg
    have e0 := mant_dot_at (l := l) (k := 0) (by omega) (List.getElem?_eq_getElem (by omega)) (all46 0 (by omega) (by omega))
    have hm1 : mant l ≤ 1 := by
      refine Nat.le_of_not_lt fun hlt => ?_
      have := mant_dot_at (l := l) (k := 1) (by omega) (List.getElem?_eq_getElem (by omega)) (all46 1 (by omega) (by omega))
      omega
    have hm : mant l = 1 := by omega
    unfold mant at hm
    rw [← e0] at hm
    cases hd : l.drop 0 with
    | nil => rw [hd] at hm; simp only at hm; omega
    | cons e r =>
      rw [hd] at hm
      simp only at hm
      split at hm
      · split at hm
        · omega
        · omega
      · omega
  · rw [hcr] at h1
    have hlen : (l.drop (mant l)).length = r.length + 1 := by rw [hcr]; rfl
    rw [List.length_drop] at hlen
    obtain ⟨h2, d, r', hr, hor⟩ := expo_whole (c := c) (r := r) (by omega)
    refine ⟨h2, d, r', hr, ?_⟩
    rcases hor with ⟨a, b, c⟩ | ⟨a, b⟩
    · exact .inl ⟨a, b, digs_full c⟩
    · exact .inr ⟨a, digs_full b⟩
end Go.Proofs.YtfmkfnochjeleaaGreatDoor
