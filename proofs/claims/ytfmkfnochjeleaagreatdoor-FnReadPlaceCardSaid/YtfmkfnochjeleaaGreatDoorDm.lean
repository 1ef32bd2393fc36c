namespace Go.Proofs.YtfmkfnochjeleaaGreatDoor.Dm

/-- the number that a list of digits stands for, the first digit weighing most -/
def val : List Nat → Nat
  | [] => 0
  | d :: ds => d * 10 ^ ds.length + val ds

theorem val_lt : ∀ ds : List Nat, (∀ d ∈ ds, d ≤ 9) → val ds < 10 ^ ds.length
  | [], _ => by decide
  | d :: ds, h => by
    have h1 := val_lt ds (fun x hx => h x (List.mem_cons_of_mem _ hx))
    have h2 := h d List.mem_cons_self
    simp only [val, List.length_cons, Nat.pow_succ]
    generalize 10 ^ ds.length = t at *
    have : d * t ≤ 9 * t := Nat.mul_le_mul_right _ h2
    omega

theorem val_ge (d : Nat) (ds : List Nat) (h : 1 ≤ d) : 10 ^ ds.length ≤ val (d :: ds) := by
  simp only [val]
  have : 1 * 10 ^ ds.length ≤ d * 10 ^ ds.length := Nat.mul_le_mul_right _ h
  omega

/-- is the first list below the second, sign by sign, a list that ends being below one that goes on -/
def lexless : List Nat → List Nat → Bool
  | _, [] => false
  | [], _ :: _ => true
  | d :: ds, c :: cs => if d = c then lexless ds cs else decide (d < c)

/-- the last one is not nought -/
def lastPos : List Nat → Prop
  | [] => True
  | [c] => 0 < c
  | _ :: c :: cs => lastPos (c :: cs)

theorem val_pos : ∀ cs : List Nat, cs ≠ [] → lastPos cs → 0 < val cs
  | [], h, _ => absurd rfl h
  | [c], _, h => by simp only [val, lastPos, List.length_nil, Nat.pow_zero] at *; omega
  | c :: c' :: cs, _, h => by
    have := val_pos (c' :: cs) (by simp) h
    simp only [val] at *; omega

theorem lexless_true : ∀ ds cs : List Nat, (∀ d ∈ ds, d ≤ 9) → lastPos cs → lexless ds cs = true → val ds * 10 ^ cs.length < val cs * 10 ^ ds.length
  | ds, [], _, _, h => by cases ds <;> simp [lexless] at h
  | [], c :: cs, _, hc, _ => by
    have := val_pos (c :: cs) (by simp) hc
    simp only [val, List.length_nil, Nat.pow_zero] at *; omega
  | d :: ds, c :: cs, hd, hc, h => by
    have hds : ∀ x ∈ ds, x ≤ 9 := fun x hx => hd x (List.mem_cons_of_mem _ hx)
    simp only [lexless] at h
    simp only [val, List.length_cons, Nat.pow_succ]
    by_cases e : d = c
    · rw [if_pos e] at h
      subst e
      have hcs : lastPos cs := by
        cases cs with
        | nil => trivial
        | cons c' cs => exact hc
      have ih := lexless_true ds cs hds hcs h
      have e1 : (d * 10 ^ ds.length + val ds) * (10 ^ cs.length * 10) = 10 * (val ds * 10 ^ cs.length) + d * 10 ^ ds.length * (10 ^ cs.length * 10) := by
        rw [Nat.add_mul, Nat.add_comm]; congr 1; rw [← Nat.mul_assoc, Nat.mul_comm]
      have e2 : (d * 10 ^ cs.length + val cs) * (10 ^ ds.length * 10) = 10 * (val cs * 10 ^ ds.length) + d * 10 ^ ds.length * (10 ^ cs.length * 10) := by
        rw [Nat.add_mul, Nat.add_comm]; congr 1
        · rw [← Nat.mul_assoc, Nat.mul_comm]
        · simp only [Nat.mul_assoc, Nat.mul_left_comm, Nat.mul_comm]
      rw [e1, e2]; omega
    · rw [if_neg e] at h
      have hlt : d < c := of_decide_eq_true h
      have hv := val_lt ds hds
      have h1 : d * 10 ^ ds.length + val ds < c * 10 ^ ds.length := by
        have : (d + 1) * 10 ^ ds.length ≤ c * 10 ^ ds.length := Nat.mul_le_mul_right _ hlt
        rw [Nat.add_mul] at this; omega
      have h2 : (d * 10 ^ ds.length + val ds) * (10 ^ cs.length * 10) < (c * 10 ^ ds.length) * (10 ^ cs.length * 10) :=
        Nat.mul_lt_mul_of_pos_right h1 (Nat.mul_pos (Nat.pow_pos (by decide)) (by decide))
      have e3 : (c * 10 ^ ds.length) * (10 ^ cs.length * 10) = (c * 10 ^ cs.length) * (10 ^ ds.length * 10) := by
        simp only [Nat.mul_assoc, Nat.mul_left_comm, Nat.mul_comm]
      rw [e3] at h2
      refine Nat.lt_of_lt_of_le h2 (Nat.mul_le_mul_right _ (by omega))

theorem lexless_false : ∀ ds cs : List Nat, (∀ c ∈ cs, c ≤ 9) → lexless ds cs = false → val cs * 10 ^ ds.length ≤ val ds * 10 ^ cs.length
  | ds, [], _, _ => by simp [val]
  | [], c :: cs, _, h => by simp [lexless] at h
  | d :: ds, c :: cs, hc, h => by
    have hcs : ∀ x ∈ cs, x ≤ 9 := fun x hx => hc x (List.mem_cons_of_mem _ hx)
    simp only [lexless] at h
    simp only [val, List.length_cons, Nat.pow_succ]
    by_cases e : d = c
    · rw [if_pos e] at h
      subst e
      have ih := lexless_false ds cs hcs h
      have e1 : (d * 10 ^ ds.length + val ds) * (10 ^ cs.length * 10) = 10 * (val ds * 10 ^ cs.length) + d * 10 ^ ds.length * (10 ^ cs.length * 10) := by
        rw [Nat.add_mul, Nat.add_comm]; congr 1; rw [← Nat.mul_assoc, Nat.mul_comm]
      have e2 : (d * 10 ^ cs.length + val cs) * (10 ^ ds.length * 10) = 10 * (val cs * 10 ^ ds.length) + d * 10 ^ ds.length * (10 ^ cs.length * 10) := by
        rw [Nat.add_mul, Nat.add_comm]; congr 1
        · rw [← Nat.mul_assoc, Nat.mul_comm]
        · simp only [Nat.mul_assoc, Nat.mul_left_comm, Nat.mul_comm]
      rw [e1, e2]; omega
    · rw [if_neg e] at h
      have hlt : c < d := by have := of_decide_eq_false h; omega
      have hv := val_lt cs hcs
      have h1 : c * 10 ^ cs.length + val cs < d * 10 ^ cs.length := by
        have : (c + 1) * 10 ^ cs.length ≤ d * 10 ^ cs.length := Nat.mul_le_mul_right _ hlt
        rw [Nat.add_mul] at this; omega
      have h2 : (c * 10 ^ cs.length + val cs) * (10 ^ ds.length * 10) ≤ (d * 10 ^ cs.length) * (10 ^ ds.length * 10) :=
        Nat.mul_le_mul_right _ (Nat.le_of_lt h1)
      have e3 : (d * 10 ^ cs.length) * (10 ^ ds.length * 10) = (d * 10 ^ ds.length) * (10 ^ cs.length * 10) := by
        simp only [Nat.mul_assoc, Nat.mul_left_comm, Nat.mul_comm]
      rw [e3] at h2
      exact Nat.le_trans h2 (Nat.mul_le_mul_right _ (by omega))

/-- how many digits a product has: by the digits of 5^k -/
theorem digits_below {V nd k L : Nat} (hL : L ≤ k) (h : V * 10 ^ L < 5 ^ k * 10 ^ nd) : V * 2 ^ k < 10 ^ (nd + (k - L)) := by
  have h1 : V * 10 ^ L * 2 ^ k < 5 ^ k * 10 ^ nd * 2 ^ k := Nat.mul_lt_mul_of_pos_right h (Nat.two_pow_pos _)
  have e1 : 5 ^ k * 10 ^ nd * 2 ^ k = 10 ^ (nd + (k - L)) * 10 ^ L := by
    rw [← Nat.pow_add, show nd + (k - L) + L = k + nd by omega, Nat.pow_add, show (10 : Nat) = 2 * 5 by rfl, Nat.mul_pow (a := 2) (b := 5) (n := k)]
    simp only [Nat.mul_assoc, Nat.mul_comm]
  have e2 : V * 10 ^ L * 2 ^ k = V * 2 ^ k * 10 ^ L := by rw [Nat.mul_assoc, Nat.mul_comm (10 ^ L), ← Nat.mul_assoc]
  rw [e1, e2] at h1
  exact Nat.lt_of_mul_lt_mul_right h1

theorem digits_above {V nd k L : Nat} (hL : L ≤ k) (h : 5 ^ k * 10 ^ nd ≤ V * 10 ^ L) : 10 ^ (nd + (k - L)) ≤ V * 2 ^ k := by
  have h1 : 5 ^ k * 10 ^ nd * 2 ^ k ≤ V * 10 ^ L * 2 ^ k := Nat.mul_le_mul_right _ h
  have e1 : 5 ^ k * 10 ^ nd * 2 ^ k = 10 ^ (nd + (k - L)) * 10 ^ L := by
    rw [← Nat.pow_add, show nd + (k - L) + L = k + nd by omega, Nat.pow_add, show (10 : Nat) = 2 * 5 by rfl, Nat.mul_pow (a := 2) (b := 5) (n := k)]
    simp only [Nat.mul_assoc, Nat.mul_comm]
  have e2 : V * 10 ^ L * 2 ^ k = V * 2 ^ k * 10 ^ L := by rw [Nat.mul_assoc, Nat.mul_comm (10 ^ L), ← Nat.mul_assoc]
  rw [e1, e2] at h1
  exact Nat.le_of_mul_le_mul_right h1 (Nat.pow_pos (by decide))
end Go.Proofs.YtfmkfnochjeleaaGreatDoor.Dm
