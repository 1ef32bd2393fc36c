import Derived.Test.YtfmkfnochjeleaaGreatDoorD3
import Derived.Test.YtfmkfnochjeleaaGreatDoorDm
import GoSem.PinnedTables
namespace Go.Proofs.YtfmkfnochjeleaaGreatDoor
open Go.RowKit

/-- the digits g i .. g (i + n - 1) as numbers -/
def dlist (g : Nat → Nat) : Nat → Nat → List Nat
  | _, 0 => []
  | i, n + 1 => (g i - 48) :: dlist g (i + 1) n

theorem dlist_len (g : Nat → Nat) : ∀ n i, (dlist g i n).length = n
  | 0, _ => rfl
  | n + 1, i => by simp [dlist, dlist_len g n (i + 1)]
theorem dlist_le (g : Nat → Nat) : ∀ n i, (∀ j, i ≤ j → j < i + n → 48 ≤ g j ∧ g j ≤ 57) → ∀ d ∈ dlist g i n, d ≤ 9
  | 0, _, _ => by intro d hd; cases hd
  | n + 1, i, h => by
    intro d hd
    cases hd with
    | head => have := h i (by omega) (by omega); omega
    | tail _ hd => exact dlist_le g n (i + 1) (fun j h1 h2 => h j (by omega) (by omega)) d hd

theorem plt_lexless (g : Nat → Nat) (nd : Nat) : ∀ (l : List UInt8) (i : Nat), i ≤ nd → (∀ j, j < nd → 48 ≤ g j) → (∀ c ∈ l, 48 ≤ c.toNat) → plt g nd i l = Dm.lexless (dlist g i (nd - i)) (l.map fun c => c.toNat - 48)
  | [], i, _, _, _ => by cases dlist g i (nd - i) <;> rfl
  | c :: l, i, hi, h, hl => by
    have hc := hl c List.mem_cons_self
    show (if nd ≤ i then true else if g i ≠ c.toNat then decide (g i < c.toNat) else plt g nd (i + 1) l) = _
    by_cases hn : nd ≤ i
    · rw [if_pos hn, show nd - i = 0 by omega]; rfl
    · rw [if_neg hn]
      have e : nd - i = (nd - (i + 1)) + 1 := by omega
      rw [e]
      have hg := h i (by omega)
      show _ = (if g i - 48 = c.toNat - 48 then Dm.lexless (dlist g (i + 1) (nd - (i + 1))) (l.map fun c => c.toNat - 48) else decide (g i - 48 < c.toNat - 48))
      by_cases hne : g i = c.toNat
      · rw [if_neg (fun h => h hne), if_pos (by omega)]
        exact plt_lexless g nd l (i + 1) (by omega) h (fun x hx => hl x (List.mem_cons_of_mem _ hx))
      · rw [if_pos hne, if_neg (by omega)]
        simp only [decide_eq_decide]
        omega

def cheatD (k : Nat) : Nat := (Go.Pinned.cheatRows.getD k (0, [])).1
def cheatC (k : Nat) : List UInt8 := (Go.Pinned.cheatRows.getD k (0, [])).2

def cheatGood (k : Nat) : Bool :=
  decide (k = 0) ||
  (Dm.val ((cheatC k).map fun c => c.toNat - 48) == 5 ^ k && (cheatC k).all (fun c => decide (48 ≤ c.toNat) && decide (c.toNat ≤ 57)) && decide ((cheatC k).length ≤ k) && decide (1 ≤ cheatD k) && cheatD k == k - (cheatC k).length + 1
    && decide (2 ^ k ≤ 10 ^ cheatD k) && decide (10 ^ (cheatD k - 1) ≤ 2 ^ k) && decide (cheatD k ≤ 19) && ((cheatC k).map fun c => c.toNat - 48).getLast? == some 5)
set_option maxRecDepth 100000 in
theorem cheats_good : (List.range 61).all cheatGood = true := by decide +kernel

theorem lastPos_of : ∀ l : List Nat, l.getLast? = some 5 → Dm.lastPos l
  | [], _ => trivial
  | [c], h => by simp at h; subst h; show 0 < 5; decide
  | c :: d :: l, h => lastPos_of (d :: l) (by simpa using h)

/-- how many digits leftShift adds -/
def dl (S : DS) (k : Nat) : Nat := cheatD k - (plt S.g S.nd 0 (cheatC k)).toNat

theorem left_count (S : DS) (k : Nat) (ok : DOK S) (hk0 : 1 ≤ k) (hk : k ≤ 60) :
    dl S k ≤ 19 ∧ 1 ≤ cheatD k ∧ 10 ^ (S.nd + dl S k - 1) ≤ Dm.val (dlist S.g 0 S.nd) * 2 ^ k ∧ Dm.val (dlist S.g 0 S.nd) * 2 ^ k < 10 ^ (S.nd + dl S k) := by
  have hg := List.all_eq_true.1 cheats_good k (List.mem_range.2 (by omega))
  unfold cheatGood at hg
  simp only [Bool.or_eq_true, Bool.and_eq_true, decide_eq_true_eq, beq_iff_eq] at hg
  rcases hg with h0 | ⟨⟨⟨⟨⟨⟨⟨⟨h1, h2⟩, h3⟩, h4⟩, h5⟩, h6⟩, h7⟩, h8⟩, h9⟩
  · omega
  · have hc : ∀ c ∈ cheatC k, 48 ≤ c.toNat ∧ c.toNat ≤ 57 := fun c hc => by simpa using List.all_eq_true.1 h2 c hc
    have hpl := plt_lexless S.g S.nd (cheatC k) 0 (Nat.zero_le _) (fun j hj => (ok.dig j hj).1) (fun c h => (hc c h).1)
    rw [Nat.sub_zero] at hpl
    have hds := dlist_le S.g S.nd 0 (fun j _ hj => ok.dig j (by omega))
    have hlen := dlist_len S.g S.nd 0
    have hV := Dm.val_lt _ hds
    have hVg : 10 ^ (S.nd - 1) ≤ Dm.val (dlist S.g 0 S.nd) := by
      have e : S.nd = (S.nd - 1) + 1 := by have := ok.pos; omega
      have h := Dm.val_ge (S.g 0 - 48) (dlist S.g 1 (S.nd - 1)) (by have := ok.first; have := ok.dig 0 ok.pos; omega)
      rw [dlist_len] at h
      rw [e]
      exact h
    rw [hlen] at hV
    have hcl : ((cheatC k).map fun c => c.toNat - 48).length = (cheatC k).length := List.length_map _
    refine ⟨by unfold dl; omega, h4, ?_⟩
    cases hb : plt S.g S.nd 0 (cheatC k)
    · rw [hb] at hpl
      have hq := Dm.lexless_false _ _ (fun c hc2 => by
        obtain ⟨x, hx, rfl⟩ := List.mem_map.1 hc2
        have := hc x hx
        omega) hpl.symm
      rw [h1, hlen, hcl] at hq
      have ha := Dm.digits_above h3 hq
      have e : dl S k = cheatD k := by unfold dl; rw [hb]; rfl
      rw [e]
      refine ⟨?_, ?_⟩
      · rw [show S.nd + cheatD k - 1 = S.nd + (k - (cheatC k).length) by omega]
        exact ha
      · rw [Nat.pow_add]
        exact Nat.lt_of_lt_of_le (Nat.mul_lt_mul_of_pos_right hV (Nat.two_pow_pos k)) (Nat.mul_le_mul_left _ h6)
    · rw [hb] at hpl
      have hq := Dm.lexless_true _ _ hds (lastPos_of _ h9) hpl.symm
      rw [h1, hlen, hcl] at hq
      have ha := Dm.digits_below h3 hq
      have e : dl S k = cheatD k - 1 := by unfold dl; rw [hb]; rfl
      rw [e]
      refine ⟨?_, ?_⟩
      · rw [show S.nd + (cheatD k - 1) - 1 = (S.nd - 1) + (cheatD k - 1) by have := ok.pos; omega, Nat.pow_add]
        exact Nat.mul_le_mul hVg h7
      · rw [show S.nd + (cheatD k - 1) = S.nd + (k - (cheatC k).length) by omega]
        exact ha

/-- the number carried behind the digits from j on -/
def lc (g : Nat → Nat) (nd k j : Nat) : Nat := Dm.val (dlist g j (nd - j)) * 2 ^ k / 10 ^ (nd - j)

theorem lc_end (g : Nat → Nat) (nd k : Nat) : lc g nd k nd = 0 := by
  unfold lc
  rw [Nat.sub_self]
  show 0 * 2 ^ k / 1 = 0
  rw [Nat.zero_mul]
theorem lc_lt (g : Nat → Nat) (nd k j : Nat) (hg : ∀ i, i < nd → 48 ≤ g i ∧ g i ≤ 57) : lc g nd k j < 2 ^ k := by
  unfold lc
  have h := Dm.val_lt _ (dlist_le g (nd - j) j (fun i h1 h2 => hg i (by omega)))
  rw [dlist_len] at h
  rw [Nat.div_lt_iff_lt_mul (Nat.pow_pos (by decide)), Nat.mul_comm (2 ^ k)]
  exact Nat.mul_lt_mul_of_pos_right h (Nat.two_pow_pos k)
theorem lc_step (g : Nat → Nat) (nd k j : Nat) (hj : j < nd) : lc g nd k j = (lc g nd k (j + 1) + (g j - 48) * 2 ^ k) / 10 := by
  unfold lc
  have e : nd - j = (nd - (j + 1)) + 1 := by omega
  rw [e]
  generalize nd - (j + 1) = m
  show ((g j - 48) * 10 ^ (dlist g (j + 1) m).length + Dm.val (dlist g (j + 1) m)) * 2 ^ k / 10 ^ (m + 1) = _
  rw [dlist_len, Nat.pow_succ, ← Nat.div_div_eq_div_mul, Nat.add_mul]
  have e2 : (g j - 48) * 10 ^ m * 2 ^ k + Dm.val (dlist g (j + 1) m) * 2 ^ k = Dm.val (dlist g (j + 1) m) * 2 ^ k + (g j - 48) * 2 ^ k * 10 ^ m := by
    rw [Nat.add_comm, Nat.mul_right_comm]
  rw [e2, Nat.add_mul_div_right _ _ (Nat.pow_pos (by decide))]

/-- what is carried at the end has as many digits as the count says -/
theorem lc_zero (S : DS) (k : Nat) (ok : DOK S) (hk0 : 1 ≤ k) (hk : k ≤ 60) : lc S.g S.nd k 0 < 10 ^ dl S k ∧ (1 ≤ dl S k → 10 ^ (dl S k - 1) ≤ lc S.g S.nd k 0) := by
  obtain ⟨_, _, h1, h2⟩ := left_count S k ok hk0 hk
  unfold lc
  rw [Nat.sub_zero]
  refine ⟨?_, fun h => ?_⟩
  · rw [Nat.div_lt_iff_lt_mul (Nat.pow_pos (by decide)), ← Nat.pow_add, Nat.add_comm]
    exact h2
  · rw [Nat.le_div_iff_mul_le (Nat.pow_pos (by decide)), ← Nat.pow_add, show dl S k - 1 + S.nd = S.nd + dl S k - 1 by omega]
    exact h1

/-- leftShift, the first loop: from the last digit to the first, r of them being left -/
def ls1 (k δ : Nat) : Nat → (Nat → Nat) → Nat → Bool → (Nat → Nat) × Nat × Bool
  | 0, g, n, t => (g, n, t)
  | r + 1, g, n, t =>
    if r + δ < 800 then ls1 k δ r (upd g (r + δ) ((n + (g r - 48) * 2 ^ k) % 10 + 48)) ((n + (g r - 48) * 2 ^ k) / 10) t
    else ls1 k δ r g ((n + (g r - 48) * 2 ^ k) / 10) (t || decide ((n + (g r - 48) * 2 ^ k) % 10 ≠ 0))

/-- the second: what is carried -/
def ls2 : Nat → (Nat → Nat) → Nat → (Nat → Nat)
  | 0, g, _ => g
  | w + 1, g, n => if n = 0 then g else ls2 w (upd g w (n % 10 + 48)) (n / 10)

def leftS (S : DS) (k : Nat) : DS :=
  let a := ls1 k (dl S k) S.nd S.g 0 S.tr
  trimS ⟨ls2 (dl S k) a.1 a.2.1, if S.nd + dl S k < 800 then S.nd + dl S k else 800, S.dp + dl S k, a.2.2⟩

theorem ls1_in (k δ r : Nat) (g : Nat → Nat) (n : Nat) (t : Bool) (h : r + δ < 800) : ls1 k δ (r + 1) g n t = ls1 k δ r (upd g (r + δ) ((n + (g r - 48) * 2 ^ k) % 10 + 48)) ((n + (g r - 48) * 2 ^ k) / 10) t := by
  show (if r + δ < 800 then _ else _) = _
  rw [if_pos h]
theorem ls1_out (k δ r : Nat) (g : Nat → Nat) (n : Nat) (t : Bool) (h : ¬ r + δ < 800) : ls1 k δ (r + 1) g n t = ls1 k δ r g ((n + (g r - 48) * 2 ^ k) / 10) (t || decide ((n + (g r - 48) * 2 ^ k) % 10 ≠ 0)) := by
  show (if r + δ < 800 then _ else _) = _
  rw [if_neg h]

/-- leftcheats in memory, under the block B -/
def CheatTab (B : Nat) (w : World) : Prop := ∃ a o, w.cell? ⟨15, 0, none⟩ = some (.slice (some ⟨a, o, none⟩) 61 61) ∧ a < B ∧ 15 < B ∧ ∀ i, i < 61 → w.cell? ⟨a, o + i * 2, none⟩ = some (.int .i64 (cheatD i)) ∧ w.cell? ⟨a, o + i * 2 + 1, none⟩ = some (.string ⟨(cheatC i).toArray⟩)

theorem cheatC_len (k : Nat) (hk : k ≤ 60) : (cheatC k).length ≤ 60 := by
  have hg := List.all_eq_true.1 cheats_good k (List.mem_range.2 (by omega))
  unfold cheatGood at hg
  simp only [Bool.or_eq_true, Bool.and_eq_true, decide_eq_true_eq, beq_iff_eq] at hg
  rcases hg with h0 | h
  · subst h0; decide
  · have := h.1.1.1.1.1.1.2; omega

set_option maxHeartbeats 2000000 in
set_option maxRecDepth 100000 in
theorem left_any (b : Nat) (neg : Bool) (S : DS) (k : Nat) (w : World) (h : DecAt w b neg S) (ok : DOK S) (hk0 : 1 ≤ k) (hk : k ≤ 60) (hp : -200000 ≤ S.dp) (hp2 : S.dp ≤ 200000) (B : Nat) (hC : CheatTab B w) :
    Calls Tryz.prog 106 #[.pointer (some ⟨b, 0, none⟩), .int .u64 k] w fun e w' => (e = .returned (.tuple #[]) ∧ DecAt w' b neg (leftS S k) ∧ DOK (leftS S k) ∧ (S.dp ≤ (leftS S k).dp ∧ (leftS S k).dp ≤ S.dp + 19 ∧ S.dp * 10 + S.g 0 < (leftS S k).dp * 10 + (leftS S k).g 0)) ∧ Below b w w' := by
  obtain ⟨R, hR⟩ : ∃ R, R = leftS S k := ⟨_, rfl⟩
  have HR := Lib.hid hR
  rw [← hR]
  clear hR
  obtain ⟨a, oc, i0, ia, ib, i1⟩ := hC
  obtain ⟨i2, i3⟩ := i1 k (by omega)
  clear i1
  have H := Lib.hid h
  have HOK := Lib.hid ok
  have c0 := h.nd
  have hlen := cheatC_len k hk
  obtain ⟨hd19, hd1, hx1, hx2⟩ := left_count S k ok hk0 hk
  clear hx1 hx2
  have hlc := Lib.hid (lc_zero S k ok hk0 hk)
  clear h ok
  have hP := pow_le60 k hk
  have hP0 := Nat.two_pow_pos k
  obtain ⟨P, hPe⟩ : ∃ P : Nat, P = 2 ^ k := ⟨_, rfl⟩
  rw [← hPe] at hP hP0
  have HPE := Lib.hid hPe
  have HP := Lib.hid hP
  clear hPe hP
  have C117 : Hid (∀ w1 cap, (∃ n, w1 = w.drewN n) → Calls Tryz.prog 117 #[.slice (some ⟨b, 0, none⟩) S.nd cap, .string ⟨(cheatC k).toArray⟩] w1 fun e w' => e = .returned (.bool (plt S.g S.nd 0 (cheatC k))) ∧ ∃ n, w' = w1.drewN n) := by
    rintro w1 cap ⟨n, rfl⟩
    exact plt_any b S.g S.nd cap ⟨(cheatC k).toArray⟩ _ (fun i hi => H.out.d i (by have := HOK.out.nd; omega)) HOK.out.nd (by show (cheatC k).toArray.size ≤ 100; simp; omega)
  go_enter Tryz.func106, Tryz.ntmps106
  obtain ⟨δ, hδ⟩ : ∃ δ, δ = dl S k := ⟨_, rfl⟩
  rw [← hδ] at hd19 hlc
  have HDL := Lib.hid hδ
  clear hδ
  obtain ⟨D, hD⟩ : ∃ D, D = S.dp := ⟨_, rfl⟩
  have HD := Lib.hid hD
  rw [← hD] at hp hp2
  clear hD
  obtain ⟨pb, hpb⟩ : ∃ pb, pb = plt S.g S.nd 0 (cheatC k) := ⟨_, rfl⟩
  have HPB := Lib.hid hpb
  rw [← hpb] at C117
  clear hpb
  obtain ⟨Cd, hCd⟩ : ∃ Cd : Int, Cd = cheatD k := ⟨_, rfl⟩
  rw [← hCd] at i2
  have hDC : Hid ((δ : Int) = Cd - (if pb then 1 else 0)) := by
    have h1 := HDL.out
    unfold dl at h1
    rw [← HPB.out] at h1
    show (δ : Int) = Cd - (if pb then 1 else 0)
    rw [h1, hCd]
    cases pb <;> simp <;> omega
  have hCd1 : 1 ≤ Cd := by omega
  have hCd2 : Cd ≤ 20 := by
    have h1 := hDC.out
    cases pb <;> simp at h1 <;> omega
  clear hCd hd1
  have hnd8 := HOK.out.nd
  have hndp := HOK.out.pos
  have hsl : ∀ w, (Instr.sliceAt 127 (.pointer (some ⟨b, 0, none⟩)) (some (.int .i64 0)) (some (.int .i64 (S.nd : Int))) none).run Tryz.prog w = .ok (.slice (some ⟨b, 0, none⟩) S.nd 800) w := by
    intro w
    have hal : Tryz.prog.arrayLen 127 = 800 := by rfl
    rw [run_sliceAt_array_lh w 127 ⟨b, 0, none⟩ (by rfl) .i64 .i64 0 S.nd (by decide) (by omega) (by rw [hal]; omega), hal]
    simp [go_sem]
  go_upto_region 1 with fail
  go_quiet ((go_at_call 117; exact Calls.quiet_of (C117.out _ _ ⟨_, rfl⟩)))
  go_upto_if 30 with fail
  go_cut [4] from 31 to 32 (fun v wx => v = .int .i64 δ ∧ wx = w.drewN nq)
  case first =>
    cases pb
    · go_wp2_with fail
      go_meet
      have h := hDC.out
      simp at h
      exact ⟨congrArg (Value.int IntKind.i64) (by omega), rfl⟩
    · go_wp2_with fail
      go_meet
      have h := hDC.out
      simp at h
      exact ⟨congrArg (Value.int IntKind.i64) (by omega), rfl⟩
  case rest =>
    obtain ⟨rfl, hwc⟩ := hcut
    have hwc2 := hwc.symm
    clear hwc
    subst hwc2
    have c1 := H.out.fz
    go_upto_block 0 with fail
    go_cut [6, 7] from 45 to 84 (fun wv nv wx => ∃ (g1 : Nat → Nat) (n1 : Nat) (t1 : Bool), wv = .int .i64 δ ∧ nv = .int .u64 n1 ∧ Hid (ls1 k δ S.nd S.g 0 S.tr = (g1, n1, t1)) ∧ Hid (n1 = lc S.g S.nd k 0) ∧ n1 < P ∧ Hid (∀ i, δ ≤ i → i < S.nd + δ → i < 800 → 48 ≤ g1 i ∧ g1 i ≤ 57) ∧ Hid (δ = 0 → S.g 0 < g1 0) ∧ Hid (DecAt wx b neg { g := g1, nd := S.nd, dp := D, tr := t1 }) ∧ Below b w wx)
    case first =>
      go_wp2_with fail
      go_loopw [5, 6, 7] (fun rv wv nv wx => ∃ (r n : Nat) (g : Nat → Nat) (t : Bool), rv = .int .i64 ((r : Int) - 1) ∧ wv = .int .i64 ((r : Int) + δ) ∧ nv = .int .u64 n ∧ Hid (ls1 k δ r g n t = ls1 k δ S.nd S.g 0 S.tr) ∧ r ≤ S.nd ∧ Hid (n = lc S.g S.nd k r) ∧ Hid (∀ i, i < r → g i = S.g i) ∧ Hid (∀ i, r + δ ≤ i → i < S.nd + δ → i < 800 → 48 ≤ g i ∧ g i ≤ 57) ∧ Hid (r = 0 → δ = 0 → S.g 0 < g 0) ∧ Hid (DecAt wx b neg { g := g, nd := S.nd, dp := D, tr := t }) ∧ Below b w wx) (fun rv _ _ _ => (intOf rv + 1).toNat)
      case atStart =>
        refine ⟨S.nd, 0, S.g, S.tr, rfl, rfl, rfl, rfl, Nat.le_refl _, (lc_end S.g S.nd k).symm, fun i _ => rfl, fun i h1 h2 _ => by omega, fun h => by omega, ?_, below_drewN (Below.refl _ _) _⟩
        show DecAt _ _ _ _
        rw [HD.out]
        exact H.out.drewN nq
      case round =>
        obtain ⟨r, n, g, t, rfl, rfl, rfl, hrs, hr, hn, hun, hd1, hf, hdec, hbel⟩ := hrel
        cases r with
        | zero =>
          go_wp2_with fail
          go_meet
          have h1 := lc_lt S.g S.nd k 0 HOK.out.dig
          rw [← hn.out, ← HPE.out] at h1
          exact ⟨g, n, t, congrArg (Value.int IntKind.i64) (by omega), rfl, hrs.out.symm, hn.out, h1, fun i h1 h2 h3 => hd1.out i (by omega) h2 h3, fun h => hf.out trivial h, hdec, hbel⟩
        | succ r =>
          have er : ((r + 1 : Nat) : Int) = (r : Int) + 1 := by omega
          rw [er, show (r : Int) + 1 - 1 = r by omega, show (r : Int) + 1 + δ = (r : Int) + δ + 1 by omega]
          clear er
          have c2 := hdec.out.d r (by omega)
          have c4 := hdec.out.fz
          simp only at c2
          rw [hun.out r (by omega)] at c2
          have cc := HOK.out.dig r (by omega)
          obtain ⟨Ni, hNi⟩ : ∃ N : Int, N = n := ⟨_, rfl⟩
          have HNi := Lib.hid hNi
          rw [← hNi]
          clear hNi
          go_upto_region 10 with fail
          obtain ⟨m, hm⟩ : ∃ m, m = n + (S.g r - 48) * 2 ^ k := ⟨_, rfl⟩
          have hmb : Hid (m < 10 * P) := by
            have h1 := hn.out
            have h2 := lc_lt S.g S.nd k (r + 1) HOK.out.dig
            have h3 := HPE.out
            show m < 10 * P
            rw [hm, ← h3]
            rw [← h1, ← h3] at h2
            have : (S.g r - 48) * P ≤ 9 * P := Nat.mul_le_mul_right _ (by omega)
            omega
          have hwr : IntKind.u64.wrap (Ni + IntKind.u64.wrap (((S.g r : Nat) - 48) * 2 ^ k)) = (m : Int) := by
            have h1 := HP.out
            have h2 : (((S.g r : Nat) : Int) - 48) * 2 ^ k = (((S.g r - 48) * 2 ^ k : Nat) : Int) := by
              rw [pw, Int.natCast_mul, Int.ofNat_sub cc.1]; rfl
            have h3 : (S.g r - 48) * 2 ^ k ≤ m := by rw [hm]; exact Nat.le_add_left _ _
            have h4 := hmb.out
            rw [h2, wrapN _ (by omega), HNi.out, ← Int.natCast_add, ← hm, wrapN _ (by omega)]
          rw [hwr]
          obtain ⟨M, hM⟩ : ∃ M : Int, M = m := ⟨_, rfl⟩
          have hM0 : 0 ≤ M := by omega
          have hM1 : M ≤ 11529215046068469759 := by have := hmb.out; have := HP.out; omega
          rw [← hM]
          have HM := Lib.hid hM
          have Hm := Lib.hid hm
          clear hM hm hwr
          have hst : Hid (m / 10 = lc S.g S.nd k r) := by
            show _ = _
            rw [lc_step S.g S.nd k r (by omega), Hm.out, hn.out]
          have hQ : Hid (M / 10 = ((m / 10 : Nat) : Int)) := by show _ = _; rw [HM.out]; rfl
          have hlow : Hid (r = 0 → δ = 0 → S.g 0 < m % 10 + 48) := by
            intro h0 hd0
            subst h0
            have h1 := hlc.out.1
            rw [hd0, ← hst.out] at h1
            have h2 : (S.g 0 - 48) * 2 ≤ (S.g 0 - 48) * 2 ^ k := Nat.mul_le_mul_left _ (by
              have : 2 ^ 1 ≤ 2 ^ k := Nat.pow_le_pow_right (by decide) hk0
              exact this)
            have h3 := HOK.out.first
            have h4 := Hm.out
            simp only [Nat.pow_zero] at h1
            generalize (S.g 0 - 48) * 2 ^ k = x at h2 h4
            omega
          by_cases h8 : r + δ < 800
          · have c3 := hdec.out.d (r + δ) h8
            simp only at c3
            have H8 := Lib.hid h8
            go_wp2_with fail
            go_roundw
            case measure => simp [intOf]
            case rel =>
              refine ⟨r, m / 10, upd g (r + δ) (m % 10 + 48), t, rfl, rfl, congrArg (Value.int IntKind.u64) hQ.out, ?_, by omega, hst, ?_, ?_, ?_, ?_, Below.setCell (p := ⟨b, r + δ, none⟩) hbel (Nat.le_refl b) _⟩
              · have e := ls1_in k δ r g n t H8.out
                rw [hun.out r (by omega), ← Hm.out] at e
                exact e.symm.trans hrs.out
              · intro i hi
                unfold upd
                rw [if_neg (by omega)]
                exact hun.out i (by omega)
              · intro i h1 h2 h3
                unfold upd
                by_cases h : i = r + δ
                · rw [if_pos h]; omega
                · rw [if_neg h]; exact hd1.out i (by omega) h2 h3
              · intro h1 h2
                unfold upd
                rw [if_pos (by omega)]
                exact hlow.out h1 h2
              · have := hdec.out.setD (r + δ) (m % 10 + 48) H8.out
                have e : ((m % 10 + 48 : Nat) : Int) = M - 10 * (M / 10) + 48 := by rw [HM.out]; omega
                rw [e] at this
                exact this
          · have h8b : decide ((r : Int) + (δ : Int) < 800) = false := decide_eq_false (by omega)
            have c3 := hdec.out.tr
            simp only at c3
            have H8 := Lib.hid h8
            by_cases hq : m % 10 = 0
            · have hq2 : (M - 10 * (M / 10) != 0) = false := by simp only [bne_eq_false_iff_eq]; rw [HM.out]; omega
              have HQ := Lib.hid hq
              clear hq h8
              go_wp2_with fail
              go_roundw
              case measure => simp [intOf]
              case rel =>
                refine ⟨r, m / 10, g, t, rfl, rfl, congrArg (Value.int IntKind.u64) hQ.out, ?_, by omega, hst, fun i hi => hun.out i (by omega), fun i h1 h2 h3 => ?_, fun h1 h2 => ?_, hdec, hbel⟩
                · have e := ls1_out k δ r g n t H8.out
                  rw [hun.out r (by omega), ← Hm.out, decide_eq_false (fun h => h HQ.out), Bool.or_false] at e
                  exact e.symm.trans hrs.out
                · exact absurd h3 (by have := H8.out; omega)
                · exact absurd H8.out (by omega)
            · have hq2 : (M - 10 * (M / 10) != 0) = true := by simp only [bne_iff_ne, ne_eq]; rw [HM.out]; omega
              have HQ := Lib.hid hq
              clear hq h8
              go_wp2_with fail
              go_roundw
              case measure => simp [intOf]
              case rel =>
                refine ⟨r, m / 10, g, true, rfl, rfl, congrArg (Value.int IntKind.u64) hQ.out, ?_, by omega, hst, fun i hi => hun.out i (by omega), fun i h1 h2 h3 => ?_, fun h1 h2 => ?_, hdec.out.setTr true, Below.setCell (p := ⟨b, 803, none⟩) hbel (Nat.le_refl b) _⟩
                · have e := ls1_out k δ r g n t H8.out
                  rw [hun.out r (by omega), ← Hm.out, decide_eq_true HQ.out, Bool.or_true] at e
                  exact e.symm.trans hrs.out
                · exact absurd h3 (by have := H8.out; omega)
                · exact absurd H8.out (by omega)
    case rest =>
      obtain ⟨g1, n1, t1, rfl, rfl, hr1, hn1, hn1b, hd1, hf1, hdec, hbel⟩ := hcut
      have hc := hlc.out
      rw [← hn1.out] at hc
      have HC := Lib.hid hc
      clear hc
      go_upto_block 2 with fail
      go_cut [] from 6 to 110 (fun wx => ∃ (g2 : Nat → Nat), Hid (ls2 δ g1 n1 = g2) ∧ Hid (∀ i, i < S.nd + δ → i < 800 → 48 ≤ g2 i ∧ g2 i ≤ 57) ∧ Hid (δ = 0 → S.g 0 < g2 0) ∧ Hid (g2 0 ≠ 48) ∧ Hid (DecAt wx b neg { g := g2, nd := S.nd, dp := D, tr := t1 }) ∧ Below b w wx)
      case first =>
        go_wp2_with fail
        go_loopw [6, 7] (fun wv nv wx => ∃ (v n : Nat) (g : Nat → Nat), wv = .int .i64 v ∧ nv = .int .u64 n ∧ v ≤ δ ∧ Hid (ls2 v g n = ls2 δ g1 n1) ∧ n < 1152921504606846976 ∧ Hid (n < 10 ^ v) ∧ Hid (1 ≤ v → 10 ^ (v - 1) ≤ n) ∧ Hid (∀ i, v ≤ i → i < S.nd + δ → i < 800 → 48 ≤ g i ∧ g i ≤ 57) ∧ Hid (δ = 0 → S.g 0 < g 0) ∧ Hid (v = 0 → 1 ≤ δ → g 0 ≠ 48) ∧ Hid (DecAt wx b neg { g := g, nd := S.nd, dp := D, tr := t1 }) ∧ Below b w wx) (fun wv _ _ => (intOf wv).toNat)
        case atStart => exact ⟨δ, n1, g1, rfl, rfl, Nat.le_refl _, rfl, by have := HP.out; omega, HC.out.1, HC.out.2, hd1.out, hf1.out, fun h1 h2 => by omega, hdec, hbel⟩
        case round =>
          clear hdec hbel hr1 hn1 hn1b hd1 hf1
          obtain ⟨v, n, g, rfl, rfl, hv, hls, hnb, hn1, hn2, hd1, hf1, hf2, hdec, hbel⟩ := hrel
          cases v with
          | zero =>
            have hn0 : n = 0 := by have := hn1.out; simp at this; exact this
            subst hn0
            go_wp2_with fail
            go_meet
            refine ⟨g, hls.out.symm, fun i h1 h2 => hd1.out i (by omega) h1 h2, hf1.out, ?_, hdec, hbel⟩
            show g 0 ≠ 48
            by_cases h : δ = 0
            · have h1 := hf1.out h
              have h2 := (HOK.out.dig 0 hndp).1
              omega
            · exact hf2.out (by trivial) (by omega)
          | succ v =>
            have hn0 : Hid (n ≠ 0) := by
              have h1 := hn2.out (by omega)
              have h2 := Nat.pow_pos (n := v + 1 - 1) (show 0 < 10 by decide)
              show n ≠ 0
              omega
            have er : ((v + 1 : Nat) : Int) = (v : Int) + 1 := by omega
            rw [er]
            clear er
            obtain ⟨N, hN⟩ : ∃ N : Int, N = n := ⟨_, rfl⟩
            have HN := Lib.hid hN
            rw [← hN]
            have hN0 : 0 < N := by have := hn0.out; omega
            have hN1 : N < 1152921504606846976 := by omega
            clear hN hnb
            have c4 := hdec.out.fz
            have c3 := hdec.out.d v (by omega)
            simp only at c3
            go_wp2_with fail
            go_roundw
            case measure => simp [intOf]
            case rel =>
              have a1 := HN.out
              have a2 := hn1.out
              have a3 := hn2.out (by omega)
              have e10 : (10 : Nat) ^ (v + 1) = 10 * 10 ^ v := by rw [Nat.pow_succ, Nat.mul_comm]
              refine ⟨v, n / 10, upd g v (n % 10 + 48), rfl, congrArg (Value.int IntKind.u64) (by omega), by omega, ?_, by omega, ?_, ?_, ?_, ?_, ?_, ?_, Below.setCell (p := ⟨b, v, none⟩) hbel (Nat.le_refl b) _⟩
              · have e : ls2 (v + 1) g n = ls2 v (upd g v (n % 10 + 48)) (n / 10) := by
                  show (if n = 0 then _ else _) = _
                  rw [if_neg hn0.out]
                exact e.symm.trans hls.out
              · show n / 10 < 10 ^ v
                rw [e10] at a2
                generalize 10 ^ v = x at a2 ⊢
                omega
              · intro h1
                rw [show v + 1 - 1 = (v - 1) + 1 by omega, Nat.pow_succ] at a3
                generalize 10 ^ (v - 1) = x at a3 ⊢
                omega
              · intro i h1 h2 h3
                unfold upd
                by_cases h : i = v
                · rw [if_pos h]; omega
                · rw [if_neg h]; exact hd1.out i (by omega) h2 h3
              · intro h
                omega
              · intro h1 h2
                unfold upd
                rw [if_pos h1.symm]
                subst h1
                simp only [Nat.zero_add, Nat.pow_one, Nat.sub_self, Nat.pow_zero] at a2 a3
                omega
              · have := hdec.out.setD v (n % 10 + 48) (by omega)
                have e : ((n % 10 + 48 : Nat) : Int) = N - 10 * (N / 10) + 48 := by rw [HN.out]; omega
                rw [e] at this
                exact this
      case rest =>
        clear hdec hbel hd1 hf1 hn1 hn1b HC
        obtain ⟨g2, hr2, hd2, hf2, hf3, hdec, hbel⟩ := hcut
        have k0 := hdec.out.nd
        have k1 := hdec.out.dp
        have cf := hdec.out.fz
        simp only at k0 k1
        obtain ⟨N2, hN2⟩ : ∃ N2, N2 = if S.nd + δ < 800 then S.nd + δ else 800 := ⟨_, rfl⟩
        have hN2b : N2 ≤ 800 ∧ 0 < N2 ∧ N2 ≤ S.nd + δ := by rw [hN2]; split <;> omega
        obtain ⟨S2, hS2⟩ : ∃ S2, S2 = DS.mk g2 N2 (D + δ) t1 := ⟨_, rfl⟩
        have hR2 : R = trimS S2 := by
          have a1 := HDL.out
          have a2 := hr1.out
          have a3 := hr2.out
          rw [HR.out, hS2, hN2]
          unfold leftS
          rw [← a1]
          simp only [a2, a3, HD.out]
        have hok := trimS_ok S2 (by rw [hS2]; exact hN2b.1) (by rw [hS2]; exact hN2b.2.1) (by rw [hS2]; exact fun i hi => hd2.out i (Nat.lt_of_lt_of_le hi hN2b.2.2) (Nat.lt_of_lt_of_le hi hN2b.1)) (by rw [hS2]; exact hf3.out)
        rw [← hR2] at hok
        obtain ⟨ok1, ok2, ok3⟩ := hok
        have HOK1 := Lib.hid ok1
        have hrise : Hid (S.dp ≤ R.dp ∧ R.dp ≤ S.dp + 19 ∧ S.dp * 10 + S.g 0 < R.dp * 10 + R.g 0) := by
          have e1 : R.dp = S.dp + δ := by rw [ok2, hS2, HD.out]
          have e2 : R.g 0 = g2 0 := by rw [ok3, hS2]
          have f2 := HOK.out.dig 0 hndp
          have f3 := ok1.dig 0 ok1.pos
          refine ⟨by omega, by omega, ?_⟩
          by_cases h : δ = 0
          · have := hf2.out h; omega
          · omega
        have C118 : Hid (∀ wq, DecAt wq b neg S2 → Below b w wq → Calls Tryz.prog 118 #[.pointer (some ⟨b, 0, none⟩)] wq fun e w' => e = .returned (.tuple #[]) ∧ DecAt w' b neg R ∧ Below b w w') := by
          intro wq h1 h2
          refine (trim_any b neg S2 _ h1 (by rw [hS2]; exact hN2b.1)).mono ?_
          rintro e w' ⟨h1, h2', h3⟩
          rw [← hR2] at h2'
          exact ⟨h1, h2', h2.trans h3⟩
        have HS2 := Lib.hid hS2
        have HN2 := Lib.hid hN2
        clear hS2 hR2 ok1 ok2 ok3 hN2 hN2b
        by_cases h8 : S.nd + δ < 800
        · have hD : Hid (DecAt ((wc.setCell ⟨b, 800, none⟩ (.int .i64 (S.nd + δ))).setCell ⟨b, 801, none⟩ (.int .i64 (D + δ))) b neg S2) := by
            show DecAt _ _ _ _
            rw [HS2.out, HN2.out, if_pos h8]
            exact (hdec.out.setNd (S.nd + δ)).setDp (D + δ)
          have hB2 : Hid (Below b w ((wc.setCell ⟨b, 800, none⟩ (.int .i64 (S.nd + δ))).setCell ⟨b, 801, none⟩ (.int .i64 (D + δ)))) := Below.setCell (p := ⟨b, 801, none⟩) (Below.setCell (p := ⟨b, 800, none⟩) hbel (Nat.le_refl b) _) (Nat.le_refl b) _
          go_wp2_with (go_at_call 118; refine (C118.out _ hD.out hB2.out).mono ?_; rintro e w9 ⟨rfl, q1, q2⟩)
          go_end0
          exact ⟨⟨rfl, q1, HOK1.out, hrise.out⟩, q2⟩
        · have hD : Hid (DecAt (((wc.setCell ⟨b, 800, none⟩ (.int .i64 (S.nd + δ))).setCell ⟨b, 800, none⟩ (.int .i64 800)).setCell ⟨b, 801, none⟩ (.int .i64 (D + δ))) b neg S2) := by
            show DecAt _ _ _ _
            rw [HS2.out, HN2.out, if_neg h8]
            exact ((hdec.out.setNd (S.nd + δ)).setNd 800).setDp (D + δ)
          have hB2 : Hid (Below b w (((wc.setCell ⟨b, 800, none⟩ (.int .i64 (S.nd + δ))).setCell ⟨b, 800, none⟩ (.int .i64 800)).setCell ⟨b, 801, none⟩ (.int .i64 (D + δ)))) := Below.setCell (p := ⟨b, 801, none⟩) (Below.setCell (p := ⟨b, 800, none⟩) (Below.setCell (p := ⟨b, 800, none⟩) hbel (Nat.le_refl b) _) (Nat.le_refl b) _) (Nat.le_refl b) _
          have h8b : 800 ≤ S.nd + δ := by omega
          go_wp2_with (go_at_call 118; refine (C118.out _ hD.out hB2.out).mono ?_; rintro e w9 ⟨rfl, q1, q2⟩)
          go_end0
          exact ⟨⟨rfl, q1, HOK1.out, hrise.out⟩, q2⟩

end Go.Proofs.YtfmkfnochjeleaaGreatDoor
