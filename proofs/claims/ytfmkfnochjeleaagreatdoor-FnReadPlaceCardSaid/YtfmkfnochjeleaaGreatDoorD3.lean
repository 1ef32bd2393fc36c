import Derived.Test.YtfmkfnochjeleaaGreatDoorD2
import Derived.Test.YtfmkfnochjeleaaGreatDoorC2
namespace Go.Proofs.YtfmkfnochjeleaaGreatDoor
open Go.RowKit

/-- rightShift, the first loop: digits are taken until the number is 2^k at least: (places taken, number) -/
def rs1 (g : Nat → Nat) (nd k : Nat) : Nat → Nat → Nat → Nat × Nat
  | 0, r, n => (r, n)
  | f + 1, r, n => if n / 2 ^ k = 0 then rs1 g nd k f (r + 1) (n * 10 + (if r < nd then g r - 48 else 0)) else (r, n)

/-- the second: one digit out, one in -/
def rs2 (k : Nat) : Nat → (Nat → Nat) → Nat → Nat → Nat → (Nat → Nat) × Nat × Nat
  | 0, g, _, w, n => (g, w, n)
  | f + 1, g, r, w, n => rs2 k f (upd g w (n / 2 ^ k + 48)) (r + 1) (w + 1) (n % 2 ^ k * 10 + (g r - 48))

/-- the third: what is left over -/
def rs3 (k : Nat) : Nat → (Nat → Nat) → Nat → Nat → Bool → (Nat → Nat) × Nat × Bool
  | 0, g, w, _, t => (g, w, t)
  | f + 1, g, w, n, t => if n = 0 then (g, w, t) else
    if w < 800 then rs3 k f (upd g w (n / 2 ^ k + 48)) (w + 1) (n % 2 ^ k * 10) t
    else rs3 k f g w (n % 2 ^ k * 10) (t || decide (0 < n / 2 ^ k))

theorem rs1_at (g : Nat → Nat) (nd k f r n : Nat) (h : n / 2 ^ k = 0) : rs1 g nd k (f + 1) r n = rs1 g nd k f (r + 1) (n * 10 + (if r < nd then g r - 48 else 0)) := by
  show (if n / 2 ^ k = 0 then _ else _) = _
  rw [if_pos h]
theorem rs1_end (g : Nat → Nat) (nd k f r n : Nat) (h : ¬ n / 2 ^ k = 0) : rs1 g nd k f r n = (r, n) := by
  cases f with
  | zero => rfl
  | succ f => show (if n / 2 ^ k = 0 then _ else _) = _; rw [if_neg h]

theorem pow_le60 (k : Nat) (hk : k ≤ 60) : 2 ^ k ≤ 1152921504606846976 := by
  have : (2 : Nat) ^ k ≤ 2 ^ 60 := Nat.pow_le_pow_right (by decide) hk
  exact this
theorem ten19 (r n : Nat) (h : 10 ^ (r - 1) ≤ n) (hn : n < 1152921504606846976) : r ≤ 19 := by
  by_cases hr : r ≤ 19
  · exact hr
  · have : (10 : Nat) ^ 19 ≤ 10 ^ (r - 1) := Nat.pow_le_pow_right (by decide) (by omega)
    have e : (10 : Nat) ^ 19 = 10000000000000000000 := by decide
    omega

/-- what a decimal keeps between shifts -/
structure DOK (S : DS) : Prop where
  nd : S.nd ≤ 800
  pos : 0 < S.nd
  dig : ∀ i, i < S.nd → 48 ≤ S.g i ∧ S.g i ≤ 57
  first : S.g 0 ≠ 48

theorem rs1_ge (g : Nat → Nat) (nd k : Nat) : ∀ f r n, r ≤ (rs1 g nd k f r n).1
  | 0, r, n => Nat.le_refl r
  | f + 1, r, n => by
    show r ≤ (if n / 2 ^ k = 0 then _ else _ : Nat × Nat).1
    by_cases h : n / 2 ^ k = 0
    · rw [if_pos h]
      have := rs1_ge g nd k f (r + 1) (n * 10 + (if r < nd then g r - 48 else 0))
      omega
    · rw [if_neg h]; exact Nat.le_refl r
theorem rs1_one (g : Nat → Nat) (nd k n : Nat) (hn : 0 < nd) (h : rs1 g nd k 30 0 0 = (1, n)) : n = g 0 - 48 := by
  rw [show (30 : Nat) = 28 + 1 + 1 from rfl, rs1_at g nd k (28 + 1) 0 0 (Nat.zero_div _), if_pos hn] at h
  by_cases h2 : (0 * 10 + (g 0 - 48)) / 2 ^ k = 0
  · rw [rs1_at g nd k 28 _ _ h2] at h
    have := rs1_ge g nd k 28 (0 + 1 + 1) ((0 * 10 + (g 0 - 48)) * 10 + (if 0 + 1 < nd then g (0 + 1) - 48 else 0))
    rw [h] at this
    simp at this
  · rw [rs1_end _ _ _ _ _ _ h2] at h
    have := congrArg Prod.snd h
    simp only at this
    omega

theorem rs3_end (k f : Nat) (g : Nat → Nat) (w : Nat) (t : Bool) : rs3 k f g w 0 t = (g, w, t) := by
  cases f with
  | zero => rfl
  | succ f => show (if 0 = 0 then _ else _) = _; rw [if_pos rfl]
theorem rs3_in (k f : Nat) (g : Nat → Nat) (w n : Nat) (t : Bool) (hn : n ≠ 0) (hw : w < 800) : rs3 k (f + 1) g w n t = rs3 k f (upd g w (n / 2 ^ k + 48)) (w + 1) (n % 2 ^ k * 10) t := by
  show (if n = 0 then _ else _) = _
  rw [if_neg hn, if_pos hw]
theorem rs3_out (k f : Nat) (g : Nat → Nat) (w n : Nat) (t : Bool) (hn : n ≠ 0) (hw : ¬ w < 800) : rs3 k (f + 1) g w n t = rs3 k f g w (n % 2 ^ k * 10) (t || decide (0 < n / 2 ^ k)) := by
  show (if n = 0 then _ else _) = _
  rw [if_neg hn, if_neg hw]

theorem trimN_le (g : Nat → Nat) : ∀ n, trimN g n ≤ n
  | 0 => Nat.le_refl 0
  | n + 1 => by
    show (if g n = 48 then _ else _) ≤ _
    by_cases h : g n = 48
    · rw [if_pos h]; have := trimN_le g n; omega
    · rw [if_neg h]; exact Nat.le_refl _
theorem trimN_pos (g : Nat → Nat) (h0 : g 0 ≠ 48) : ∀ n, 0 < n → 0 < trimN g n
  | 0, h => by omega
  | n + 1, _ => by
    show 0 < (if g n = 48 then _ else _)
    by_cases h : g n = 48
    · rw [if_pos h]
      cases n with
      | zero => exact absurd h h0
      | succ m => exact trimN_pos g h0 (m + 1) (by omega)
    · rw [if_neg h]; omega
theorem trimS_ok (S : DS) (h1 : S.nd ≤ 800) (h2 : 0 < S.nd) (h3 : ∀ i, i < S.nd → 48 ≤ S.g i ∧ S.g i ≤ 57) (h4 : S.g 0 ≠ 48) : DOK (trimS S) ∧ (trimS S).dp = S.dp ∧ (trimS S).g = S.g := by
  have a := trimN_le S.g S.nd
  have c := trimN_pos S.g h4 S.nd h2
  refine ⟨⟨?_, c, fun i hi => h3 i (Nat.lt_of_lt_of_le hi a), h4⟩, ?_, rfl⟩
  · show trimN S.g S.nd ≤ 800; omega
  · show (if trimN S.g S.nd = 0 then 0 else S.dp) = S.dp
    rw [if_neg (by omega)]

/-- rightShift -/
def rightS (S : DS) (k : Nat) : DS :=
  let a := rs1 S.g S.nd k 30 0 0
  let c := rs2 k (S.nd - a.1) S.g a.1 0 a.2
  let e := rs3 k (k + 1) c.1 c.2.1 c.2.2 S.tr
  trimS ⟨e.1, e.2.1, S.dp - ((a.1 : Int) - 1), e.2.2⟩

theorem dvd_next (k gk n : Nat) (h1 : 1 ≤ gk) (h2 : gk ≤ k + 1) (h : 2 ^ (k + 1 - gk) ∣ n) : n % 2 ^ k * 10 = 0 ∨ (1 ≤ gk - 1 ∧ 2 ^ (k + 1 - (gk - 1)) ∣ n % 2 ^ k * 10) := by
  by_cases h3 : gk = 1
  · subst h3
    left
    have : n % 2 ^ k = 0 := Nat.mod_eq_zero_of_dvd (by simpa using h)
    rw [this]
  · right
    refine ⟨by omega, ?_⟩
    have e : 2 ^ (k + 1 - (gk - 1)) = 2 ^ (k + 1 - gk) * 2 := by rw [← Nat.pow_succ]; exact congrArg (fun e => 2 ^ e) (by omega)
    have h4 : 2 ^ (k + 1 - gk) ∣ n % 2 ^ k := (Nat.dvd_mod_iff (Nat.pow_dvd_pow 2 (by omega))).2 h
    rw [e]
    exact Nat.mul_dvd_mul h4 (by decide)

set_option maxHeartbeats 2000000 in
set_option maxRecDepth 100000 in
theorem right_any (b : Nat) (neg : Bool) (S : DS) (k : Nat) (w : World) (h : DecAt w b neg S) (ok : DOK S) (hk0 : 1 ≤ k) (hk : k ≤ 60) (hp : -200000 ≤ S.dp) (hp2 : S.dp ≤ 200000) :
    Calls Tryz.prog 107 #[.pointer (some ⟨b, 0, none⟩), .int .u64 k] w fun e w' => (e = .returned (.tuple #[]) ∧ DecAt w' b neg (rightS S k) ∧ DOK (rightS S k) ∧ (S.dp - 19 ≤ (rightS S k).dp ∧ (rightS S k).dp ≤ S.dp ∧ (rightS S k).dp * 10 + (rightS S k).g 0 < S.dp * 10 + S.g 0)) ∧ Below b w w' := by
  obtain ⟨R, hR⟩ : ∃ R, R = rightS S k := ⟨_, rfl⟩
  have HR := Lib.hid hR
  rw [← hR]
  clear hR
  have H := Lib.hid h
  have HOK := Lib.hid ok
  have c0 := h.nd
  clear h ok
  have hP := pow_le60 k hk
  have hP0 := Nat.two_pow_pos k
  obtain ⟨P, hPe⟩ : ∃ P : Nat, P = 2 ^ k := ⟨_, rfl⟩
  rw [← hPe] at hP hP0
  have HPE := Lib.hid hPe
  have HP := Lib.hid hP
  clear hPe hP
  go_enter Tryz.func107, Tryz.ntmps107
  go_upto_block 0 with fail
  go_cut [4, 6] from 12 to 48 (fun rv nv wx => (∃ r n : Nat, rv = .int .i64 r ∧ nv = .int .u64 n ∧ rs1 S.g S.nd k 30 0 0 = (r, n) ∧ 1 ≤ r ∧ r ≤ 20 ∧ P ≤ n ∧ n < 10 * P) ∧ wx = w)
  case first =>
    go_wp2_with fail
    go_loop [4, 6] (fun rv nv => ∃ r n : Nat, rv = .int .i64 r ∧ nv = .int .u64 n ∧ Hid (rs1 S.g S.nd k (30 - r) r n = rs1 S.g S.nd k 30 0 0) ∧ r ≤ 20 ∧ r ≤ S.nd ∧ n < 10 * P ∧ Hid (1 ≤ r → 10 ^ (r - 1) ≤ n) ∧ Hid (r = 0 → n = 0)) (fun rv _ => 30 - (intOf rv).toNat)
    case atStart => exact ⟨0, 0, rfl, rfl, rfl, by omega, by omega, by omega, fun h => by omega, fun _ => rfl⟩
    case round =>
      obtain ⟨r, n, rfl, rfl, hr, hr20, hrn, hn, hten, hz⟩ := hrel
      obtain ⟨N, hN⟩ : ∃ N : Int, N = n := ⟨_, rfl⟩
      have HN := Lib.hid hN
      rw [← hN]
      have hdiv : (N / 2 ^ k == 0) = decide (n / 2 ^ k = 0) := by
        rw [hN, pw, ← Int.natCast_ediv]
        by_cases h : n / 2 ^ k = 0
        · rw [decide_eq_true h, h]; rfl
        · rw [decide_eq_false h, beq_eq_false_iff_ne]; omega
      by_cases hq : n / 2 ^ k = 0
      · rw [decide_eq_true hq] at hdiv
        have hnP : n < P := by
          have := HPE.out
          rw [Nat.div_eq_zero_iff] at hq
          rcases hq with h | h
          · have := Nat.two_pow_pos k; omega
          · omega
        have hN1 : 0 ≤ N := by omega
        have hN2 : N ≤ 1152921504606846975 := by have := HP.out; omega
        have HQ := Lib.hid hq
        have HNP := Lib.hid hnP
        have HNN := Lib.hid hn
        have hr19 : Hid (r ≤ 19) := by
          by_cases h1 : 1 ≤ r
          · exact ten19 r n (hten h1) (by have := HP.out; omega)
          · show r ≤ 19; omega
        clear hN hq hnP hn
        by_cases hlt : r < S.nd
        · have c2 := H.out.d r (by have := HOK.out.nd; omega)
          obtain ⟨g1, g2⟩ := HOK.out.dig r hlt
          have hlt2 : ¬ (S.nd : Int) ≤ (r : Int) := by omega
          go_wp2_with fail
          go_round
          case measure => simp [intOf]; omega
          case rel =>
            have e := rs1_at S.g S.nd k (30 - (r + 1)) r n HQ.out
            have a := HN.out; have a2 := HNP.out; have a3 := hr19.out
            rw [if_pos hlt, show 30 - (r + 1) + 1 = 30 - r by omega] at e
            refine ⟨r + 1, n * 10 + (S.g r - 48), rfl, congrArg (Value.int IntKind.u64) (by omega), e.symm.trans hr.out, by omega, by omega, by omega, fun _ => ?_, fun h => by omega⟩
            by_cases h0 : r = 0
            · subst h0
              have := HOK.out.first
              show 10 ^ 0 ≤ _
              simp only [Nat.pow_zero]
              omega
            · have h1 := hten (by omega)
              have e10 : (10 : Nat) ^ (r + 1 - 1) = 10 ^ (r - 1) * 10 := by
                rw [← Nat.pow_succ]
                exact congrArg (fun e => 10 ^ e) (show r + 1 - 1 = (r - 1) + 1 by omega)
              rw [e10]
              omega
        · have hge : (S.nd : Int) ≤ (r : Int) := by omega
          have hpos := HOK.out.pos
          have hr1 : Hid (1 ≤ r) := by show 1 ≤ r; omega
          have hN0 : Hid (1 ≤ N) := by
            have h1 := hten hr1.out
            have h2 := Nat.pow_pos (n := r - 1) (show 0 < 10 by decide)
            have := HN.out
            show 1 ≤ N
            omega
          have hN0b : (N == 0) = false := by have := hN0.out; rw [beq_eq_false_iff_ne]; omega
          clear hN1 hN2
          go_wp2_with fail
          clear hdiv hN0b
          go_loop [4, 6] (fun rv nv => ∃ r n : Nat, rv = .int .i64 r ∧ nv = .int .u64 n ∧ Hid (rs1 S.g S.nd k (30 - r) r n = rs1 S.g S.nd k 30 0 0) ∧ r ≤ 20 ∧ S.nd ≤ r ∧ n < 10 * P ∧ Hid (10 ^ (r - 1) ≤ n)) (fun rv _ => 30 - (intOf rv).toNat)
          case atStart => exact ⟨r, n, rfl, congrArg (Value.int IntKind.u64) HN.out, hr, by omega, by omega, HNN.out, hten hr1.out⟩
          case round =>
            clear hten hz hr hr19 HQ HNP HNN HN hr1 hN0 hge
            obtain ⟨ri, ni, rfl, rfl, hr, hr20, hrn, hn, hten⟩ := hrel
            obtain ⟨Ni, hN⟩ : ∃ Ni : Int, Ni = ni := ⟨_, rfl⟩
            have HN := Lib.hid hN
            rw [← hN]
            have hdiv : (Ni / 2 ^ k == 0) = decide (ni / 2 ^ k = 0) := by
              rw [hN, pw, ← Int.natCast_ediv]
              by_cases h : ni / 2 ^ k = 0
              · rw [decide_eq_true h, h]; rfl
              · rw [decide_eq_false h, beq_eq_false_iff_ne]; omega
            by_cases hq : ni / 2 ^ k = 0
            · rw [decide_eq_true hq] at hdiv
              have hnP : ni < P := by
                have := HPE.out
                rw [Nat.div_eq_zero_iff] at hq
                rcases hq with h | h
                · have := Nat.two_pow_pos k; omega
                · omega
              have hN1 : 0 ≤ Ni := by omega
              have hN2 : Ni ≤ 1152921504606846975 := by have := HP.out; omega
              have HQ := Lib.hid hq
              have HNP := Lib.hid hnP
              have hr19 : Hid (ri ≤ 19) := ten19 ri ni hten (by have := HP.out; omega)
              clear hN hq hnP hn
              go_wp2_with fail
              go_round
              case measure => simp [intOf]; omega
              case rel =>
                have e := rs1_at S.g S.nd k (30 - (ri + 1)) ri ni HQ.out
                have a := HN.out; have a2 := HNP.out; have a3 := hr19.out
                rw [if_neg (by omega), show 30 - (ri + 1) + 1 = 30 - ri by omega] at e
                refine ⟨ri + 1, ni * 10 + 0, rfl, congrArg (Value.int IntKind.u64) (by omega), e.symm.trans hr.out, by omega, by omega, by omega, ?_⟩
                have h1 := hten.out
                have hp := HOK.out.pos
                have e10 : (10 : Nat) ^ (ri + 1 - 1) = 10 ^ (ri - 1) * 10 := by
                  rw [← Nat.pow_succ]
                  exact congrArg (fun e => 10 ^ e) (show ri + 1 - 1 = (ri - 1) + 1 by omega)
                show 10 ^ (ri + 1 - 1) ≤ _
                rw [e10]
                omega
            · rw [decide_eq_false hq] at hdiv
              have HQ := Lib.hid hq
              clear hq hN
              go_wp2_with fail
              go_meet
              have hq := HQ.out
              refine ⟨⟨ri, ni, rfl, congrArg (Value.int IntKind.u64) HN.out, (hr.out.symm.trans (rs1_end S.g S.nd k (30 - ri) ri ni hq)), ?_, hr20, ?_, hn⟩, rfl⟩
              · have := HOK.out.pos
                show 1 ≤ ri
                omega
              · have h1 := HPE.out
                show P ≤ ni
                by_cases h2 : ni < 2 ^ k
                · exact absurd (Nat.div_eq_of_lt h2) hq
                · omega
      · rw [decide_eq_false hq] at hdiv
        have HQ := Lib.hid hq
        clear hq hN
        go_wp2_with fail
        go_meet
        have hq := HQ.out
        refine ⟨⟨r, n, rfl, congrArg (Value.int IntKind.u64) HN.out, (hr.out.symm.trans (rs1_end S.g S.nd k (30 - r) r n hq)), ?_, hr20, ?_, hn⟩, rfl⟩
        · show 1 ≤ r
          by_cases h0 : r = 0
          · exact absurd (by rw [hz h0]; exact Nat.zero_div _) hq
          · omega
        · have h1 := HPE.out
          show P ≤ n
          by_cases h2 : n < 2 ^ k
          · exact absurd (Nat.div_eq_of_lt h2) hq
          · omega
  case rest =>
    obtain ⟨⟨r, n, rfl, rfl, hrs, hr1, hr20, hPn, hn10⟩, hwc⟩ := hcut
    have hwc2 := hwc.symm
    clear hwc
    subst hwc2
    have HRS := Lib.hid hrs
    clear hrs
    obtain ⟨D, hD⟩ : ∃ D, D = S.dp := ⟨_, rfl⟩
    have HD := Lib.hid hD
    have c1 := H.out.dp
    rw [← hD] at c1 hp hp2
    clear hD
    have c3 := H.out.fz
    obtain ⟨N, hN⟩ : ∃ N : Int, N = n := ⟨_, rfl⟩
    have HN := Lib.hid hN
    rw [← hN]
    have HPn := Lib.hid hPn
    have Hn10 := Lib.hid hn10
    clear hN hPn hn10
    go_upto_block 4 with fail
    have hmask : Hid (IntKind.u64.wrap (IntKind.u64.wrap (2 ^ k) - 1) = ((2 ^ k - 1 : Nat) : Int)) := by
      have h1 := HPE.out
      have h2 := HP.out
      show _ = _
      rw [pw, wrapN _ (by omega), IntKind.wrap_u64]
      omega
    rw [hmask.out]
    obtain ⟨MK, hMK⟩ : ∃ MK : Int, MK = ((2 ^ k - 1 : Nat) : Int) := ⟨_, rfl⟩
    rw [← hMK]
    have HMK := Lib.hid hMK
    clear hMK
    obtain ⟨wA, hwA⟩ : ∃ wA, wA = w.setCell ⟨b, 801, none⟩ (.int .i64 (D - ((r : Int) - 1))) := ⟨_, rfl⟩
    rw [← hwA]
    have HA : Hid (DecAt wA b neg { S with dp := D - ((r : Int) - 1) }) := by show DecAt _ _ _ _; rw [hwA]; exact H.out.setDp _
    have HB : Hid (Below b w wA) := by show Below _ _ _; rw [hwA]; exact Below.setCell (p := ⟨b, 801, none⟩) (Below.refl b w) (Nat.le_refl b) _
    clear hwA c0 c1 c3
    go_cut [4, 5, 6] from 61 to 96 (fun rv wv nv wx => ∃ (w1 n1 : Nat) (g1 : Nat → Nat), wv = .int .i64 w1 ∧ nv = .int .u64 n1 ∧ Hid (rs2 k (S.nd - r) S.g r 0 n = (g1, w1, n1)) ∧ n1 < 10 * P ∧ w1 = S.nd - r ∧ (∀ i, i < w1 → 48 ≤ g1 i ∧ g1 i ≤ 57) ∧ Hid (1 ≤ w1 → g1 0 = n / 2 ^ k + 48) ∧ Hid (w1 = 0 → n1 = n) ∧ Hid (DecAt wx b neg { S with g := g1, dp := D - ((r : Int) - 1) }) ∧ Below b w wx)
    case first =>
      go_wp2_with fail
      go_loopw [4, 5, 6] (fun rv wv nv wx => ∃ (ri wi ni : Nat) (g1 : Nat → Nat), rv = .int .i64 ri ∧ wv = .int .i64 wi ∧ nv = .int .u64 ni ∧ Hid (rs2 k (S.nd - ri) g1 ri wi ni = rs2 k (S.nd - r) S.g r 0 n) ∧ ni < 10 * P ∧ ri = wi + r ∧ (wi = 0 ∨ ri ≤ S.nd) ∧ Hid (∀ i, i < wi → 48 ≤ g1 i ∧ g1 i ≤ 57) ∧ Hid (∀ i, ri ≤ i → i < S.nd → 48 ≤ g1 i ∧ g1 i ≤ 57) ∧ Hid (1 ≤ wi → g1 0 = n / 2 ^ k + 48) ∧ Hid (wi = 0 → ni = n) ∧ Hid (DecAt wx b neg { S with g := g1, dp := D - ((r : Int) - 1) }) ∧ Below b w wx) (fun rv _ _ _ => S.nd - (intOf rv).toNat)
      case atStart => exact ⟨r, 0, n, S.g, rfl, rfl, congrArg (Value.int IntKind.u64) HN.out, rfl, Hn10.out, by omega, .inl rfl, fun i hi => by omega, fun i _ hi => HOK.out.dig i hi, fun h => by omega, fun _ => rfl, HA.out, HB.out⟩
      case round =>
        obtain ⟨ri, wi, ni, g1, rfl, rfl, rfl, hrs, hni, hri, hor, hd1, hd2, hf, hz, hdec, hbel⟩ := hrel
        have hwr : wi < ri := by omega
        have HRI := Lib.hid hri
        clear hri
        have c0 := hdec.out.nd
        have cf := hdec.out.fz
        simp only at c0
        by_cases hlt : ri < S.nd
        · have c2 := hdec.out.d ri (by have := HOK.out.nd; omega)
          have c3 := hdec.out.d wi (by have := HOK.out.nd; omega)
          simp only at c2 c3
          have hb1 : ri < 800 := by have := HOK.out.nd; omega
          have hb2 : wi < 800 := by omega
          obtain ⟨q1, q2⟩ := hd2.out ri (Nat.le_refl _) hlt
          obtain ⟨Ni, hNi⟩ : ∃ N : Int, N = ni := ⟨_, rfl⟩
          have HNi := Lib.hid hNi
          rw [← hNi]
          obtain ⟨Dg, hDg⟩ : ∃ Dg : Int, Dg = ((ni / 2 ^ k : Nat) : Int) := ⟨_, rfl⟩
          have hdg : Hid (ni / 2 ^ k ≤ 9) := by
            have h1 := HPE.out
            have : ni / 2 ^ k < 10 := by rw [Nat.div_lt_iff_lt_mul (Nat.two_pow_pos k)]; omega
            show ni / 2 ^ k ≤ 9
            omega
          have e1 : Ni / 2 ^ k = Dg := by rw [hNi, pw, ← Int.natCast_ediv, hDg]
          obtain ⟨Rm, hRm⟩ : ∃ Rm : Int, Rm = ((ni % 2 ^ k : Nat) : Int) := ⟨_, rfl⟩
          have hrm : Hid (ni % 2 ^ k < P) := by
            have h1 := HPE.out
            have := Nat.mod_lt ni (Nat.two_pow_pos k)
            show ni % 2 ^ k < P
            omega
          have e2 : bits .and .u64 Ni MK = Rm := by
            have h1 := HPE.out
            have h2 := HP.out
            rw [hNi, HMK.out, hRm, ← Nat.and_two_pow_sub_one_eq_mod]
            exact u64_and_nat _ _ (by omega) (by omega)
          have d0 : 0 ≤ Dg := by rw [hDg]; exact Int.natCast_nonneg _
          have d9 : Dg ≤ 9 := by rw [hDg]; exact Int.ofNat_le.2 hdg.out
          have m0 : 0 ≤ Rm := by rw [hRm]; exact Int.natCast_nonneg _
          have m1 : Rm ≤ 1152921504606846975 := by rw [hRm]; exact Int.ofNat_le.2 (Nat.le_of_lt_succ (Nat.lt_of_lt_of_le hrm.out HP.out))
          have HDg := Lib.hid hDg
          have HRm := Lib.hid hRm
          clear hNi hDg hRm
          go_wp2_with fail
          go_roundw
          case measure => simp [intOf]; omega
          case rel =>
            have a1 := HRI.out
            have a2 := hrm.out
            refine ⟨ri + 1, wi + 1, ni % 2 ^ k * 10 + (g1 ri - 48), upd g1 wi (ni / 2 ^ k + 48), rfl, rfl, congrArg (Value.int IntKind.u64) (by have h1 := HRm.out; generalize ni % 2 ^ k = x at h1 ⊢; omega), ?_, by omega, by omega, .inr (by omega), ?_, ?_, ?_, fun h => by omega, ?_, Below.setCell (p := ⟨b, wi, none⟩) hbel (Nat.le_refl b) _⟩
            · have e : rs2 k (S.nd - (ri + 1) + 1) g1 ri wi ni = rs2 k (S.nd - (ri + 1)) (upd g1 wi (ni / 2 ^ k + 48)) (ri + 1) (wi + 1) (ni % 2 ^ k * 10 + (g1 ri - 48)) := rfl
              rw [show S.nd - (ri + 1) + 1 = S.nd - ri by omega] at e
              exact e.symm.trans hrs.out
            · intro i hi
              have a3 := hdg.out
              unfold upd
              by_cases h : i = wi
              · rw [if_pos h]; exact ⟨Nat.le_add_left _ _, Nat.add_le_add_right a3 48⟩
              · rw [if_neg h]; exact hd1.out i (by omega)
            · intro i hi hi2
              unfold upd
              rw [if_neg (by omega)]
              exact hd2.out i (by omega) hi2
            · intro _
              unfold upd
              by_cases h : 0 = wi
              · rw [if_pos h, hz.out h.symm]
              · rw [if_neg h]; exact hf.out (by omega)
            · have := hdec.out.setD wi (ni / 2 ^ k + 48) (by omega)
              have e : ((ni / 2 ^ k + 48 : Nat) : Int) = Dg + 48 := by rw [HDg.out]; rfl
              rw [e] at this
              exact this
        · have hge : decide ((ri : Int) < (S.nd : Int)) = false := decide_eq_false (by omega)
          go_wp2_with fail
          go_meet
          have a1 := HRI.out
          refine ⟨wi, ni, g1, rfl, rfl, ?_, hni, by omega, hd1.out, hf, hz, hdec, hbel⟩
          have e : S.nd - ri = 0 := by omega
          have h := hrs.out
          rw [e] at h
          exact h.symm
    case rest =>
      obtain ⟨w1, n1, g1, rfl, rfl, hr2, hn1, hw1, hd1, hf, hz, hdec, hbel⟩ := hcut
      have hw8 : w1 ≤ 800 := by have := HOK.out.nd; omega
      have HW1 := Lib.hid hw1
      have HD1 := Lib.hid hd1
      clear hw1 hd1
      go_upto_block 6 with fail
      go_cut [5, 6] from 97 to 123 (fun wv nv wx => ∃ (w2 : Nat) (g2 : Nat → Nat) (t2 : Bool), wv = .int .i64 w2 ∧ Hid (rs3 k (k + 1) g1 w1 n1 S.tr = (g2, w2, t2)) ∧ 1 ≤ w2 ∧ w2 ≤ 800 ∧ Hid (∀ i, i < w2 → 48 ≤ g2 i ∧ g2 i ≤ 57) ∧ Hid (g2 0 = n / 2 ^ k + 48) ∧ Hid (DecAt wx b neg { g := g2, nd := S.nd, dp := D - ((r : Int) - 1), tr := t2 }) ∧ Below b w wx)
      case first =>
        go_wp2_with fail
        go_loopg [5, 6] (k + 1) (fun gk wv nv wx => ∃ (wi ni : Nat) (gi : Nat → Nat) (t : Bool), wv = .int .i64 wi ∧ nv = .int .u64 ni ∧ Hid (rs3 k gk gi wi ni t = rs3 k (k + 1) g1 w1 n1 S.tr) ∧ ni < 10 * P ∧ wi ≤ 800 ∧ Hid (∀ i, i < wi → 48 ≤ gi i ∧ gi i ≤ 57) ∧ Hid (1 ≤ wi → gi 0 = n / 2 ^ k + 48) ∧ Hid (wi = 0 → ni = n) ∧ gk ≤ k + 1 ∧ Hid (ni = 0 ∨ (1 ≤ gk ∧ 2 ^ (k + 1 - gk) ∣ ni)) ∧ Hid (DecAt wx b neg { g := gi, nd := S.nd, dp := D - ((r : Int) - 1), tr := t }) ∧ Below b w wx)
        case atStart => exact ⟨w1, n1, g1, S.tr, rfl, rfl, rfl, hn1, hw8, HD1.out, hf, hz, Nat.le_refl _, .inr ⟨by omega, by rw [Nat.sub_self]; exact Nat.one_dvd _⟩, hdec, hbel⟩
        case round =>
          clear hdec hbel hr2 hf hz HD1
          obtain ⟨wi, ni, gi, t, rfl, rfl, hrs, hni, hwi, hdi, hf, hz, hgk, hdv, hdec, hbel⟩ := hrel
          have cf := hdec.out.fz
          obtain ⟨Ni, hNi⟩ : ∃ N : Int, N = ni := ⟨_, rfl⟩
          have HNi := Lib.hid hNi
          rw [← hNi]
          obtain ⟨Dg, hDg⟩ : ∃ Dg : Int, Dg = ((ni / 2 ^ k : Nat) : Int) := ⟨_, rfl⟩
          have hdg : Hid (ni / 2 ^ k ≤ 9) := by
            have h1 := HPE.out
            have : ni / 2 ^ k < 10 := by rw [Nat.div_lt_iff_lt_mul (Nat.two_pow_pos k)]; omega
            show ni / 2 ^ k ≤ 9
            omega
          have e1 : Ni / 2 ^ k = Dg := by rw [hNi, pw, ← Int.natCast_ediv, hDg]
          obtain ⟨Rm, hRm⟩ : ∃ Rm : Int, Rm = ((ni % 2 ^ k : Nat) : Int) := ⟨_, rfl⟩
          have hrm : Hid (ni % 2 ^ k < P) := by
            have h1 := HPE.out
            have := Nat.mod_lt ni (Nat.two_pow_pos k)
            show ni % 2 ^ k < P
            omega
          have e2 : bits .and .u64 Ni MK = Rm := by
            have h1 := HPE.out
            have h2 := HP.out
            rw [hNi, HMK.out, hRm, ← Nat.and_two_pow_sub_one_eq_mod]
            exact u64_and_nat _ _ (by omega) (by omega)
          have d0 : 0 ≤ Dg := by rw [hDg]; exact Int.natCast_nonneg _
          have d9 : Dg ≤ 9 := by rw [hDg]; exact Int.ofNat_le.2 hdg.out
          have m0 : 0 ≤ Rm := by rw [hRm]; exact Int.natCast_nonneg _
          have m1 : Rm ≤ 1152921504606846975 := by rw [hRm]; exact Int.ofNat_le.2 (Nat.le_of_lt_succ (Nat.lt_of_lt_of_le hrm.out HP.out))
          have HDg := Lib.hid hDg
          have HRm := Lib.hid hRm
          have Hni := Lib.hid hni
          clear hDg hRm hni
          by_cases h0 : ni = 0
          · subst h0
            have hN0 : decide (0 < Ni) = false := decide_eq_false (by omega)
            clear hNi
            go_wp2_with fail
            go_meet
            have h := hrs.out
            rw [rs3_end] at h
            have hw1 : 1 ≤ wi := by
              by_cases hw0 : wi = 0
              · have h1 := hz.out hw0
                have h2 := HPn.out
                have h3 := HPE.out
                have h4 := Nat.two_pow_pos k
                omega
              · omega
            exact ⟨wi, gi, t, rfl, h.symm, hw1, hwi, hdi, hf.out hw1, hdec, hbel⟩
          · have hN0 : decide (0 < Ni) = true := decide_eq_true (by omega)
            obtain ⟨g', rfl⟩ : ∃ g', gk = g' + 1 := by
              rcases hdv.out with h | h
              · exact absurd h h0
              · exact ⟨gk - 1, by omega⟩
            have hnext : Hid (ni % 2 ^ k * 10 = 0 ∨ (1 ≤ g' ∧ 2 ^ (k + 1 - g') ∣ ni % 2 ^ k * 10)) := by
              rcases hdv.out with h | ⟨h1, h2⟩
              · exact absurd h h0
              · exact dvd_next k (g' + 1) ni h1 hgk h2
            have H0 := Lib.hid h0
            have HNe := Lib.hid (show Rm * 10 = ((ni % 2 ^ k * 10 : Nat) : Int) by rw [HRm.out]; rfl)
            clear hNi h0
            by_cases hlt : wi < 800
            · have c3 := hdec.out.d wi hlt
              simp only at c3
              have HLT := Lib.hid hlt
              go_wp2_with fail
              go_roundg g'
              case measure => omega
              case rel =>
                have hst := rs3_in k g' gi wi ni t H0.out HLT.out
                have a2 := hrm.out
                refine ⟨wi + 1, ni % 2 ^ k * 10, upd gi wi (ni / 2 ^ k + 48), t, rfl, congrArg (Value.int IntKind.u64) HNe.out, hst.symm.trans hrs.out, by generalize ni % 2 ^ k = x at a2 ⊢; omega, by omega, ?_, ?_, fun h => by omega, by omega, hnext.out, ?_, Below.setCell (p := ⟨b, wi, none⟩) hbel (Nat.le_refl b) _⟩
                · intro i hi
                  have a3 := hdg.out
                  unfold upd
                  by_cases h : i = wi
                  · rw [if_pos h]; exact ⟨Nat.le_add_left _ _, Nat.add_le_add_right a3 48⟩
                  · rw [if_neg h]; exact hdi.out i (by omega)
                · intro _
                  unfold upd
                  by_cases h : 0 = wi
                  · rw [if_pos h, hz.out h.symm]
                  · rw [if_neg h]; exact hf.out (by omega)
                · have := hdec.out.setD wi (ni / 2 ^ k + 48) (by omega)
                  have e : ((ni / 2 ^ k + 48 : Nat) : Int) = Dg + 48 := by rw [HDg.out]; rfl
                  rw [e] at this
                  exact this
            · have HLT := Lib.hid hlt
              have hlt2 : decide ((wi : Int) < 800) = false := decide_eq_false (by omega)
              have c3 := hdec.out.tr
              simp only at c3
              by_cases hD0 : 0 < Dg
              · have hdt : decide (0 < Dg) = true := decide_eq_true hD0
                go_wp2_with fail
                go_roundg g'
                case measure => omega
                case rel =>
                  have hst := rs3_out k g' gi wi ni t H0.out HLT.out
                  have a2 := hrm.out
                  have h5 : decide (0 < ni / 2 ^ k) = true := decide_eq_true (by have := HDg.out; generalize ni / 2 ^ k = x at this ⊢; omega)
                  rw [h5, Bool.or_true] at hst
                  exact ⟨wi, ni % 2 ^ k * 10, gi, true, rfl, congrArg (Value.int IntKind.u64) HNe.out, hst.symm.trans hrs.out, by generalize ni % 2 ^ k = x at a2 ⊢; omega, hwi, hdi, hf, fun h => by omega, by omega, hnext.out, hdec.out.setTr true, Below.setCell (p := ⟨b, 803, none⟩) hbel (Nat.le_refl b) _⟩
              · have hdt : decide (0 < Dg) = false := decide_eq_false hD0
                go_wp2_with fail
                go_roundg g'
                case measure => omega
                case rel =>
                  have hst := rs3_out k g' gi wi ni t H0.out HLT.out
                  have a2 := hrm.out
                  have h5 : decide (0 < ni / 2 ^ k) = false := decide_eq_false (by have := HDg.out; generalize ni / 2 ^ k = x at this ⊢; omega)
                  rw [h5, Bool.or_false] at hst
                  exact ⟨wi, ni % 2 ^ k * 10, gi, t, rfl, congrArg (Value.int IntKind.u64) HNe.out, hst.symm.trans hrs.out, by generalize ni % 2 ^ k = x at a2 ⊢; omega, hwi, hdi, hf, fun h => by omega, by omega, hnext.out, hdec, hbel⟩
      case rest =>
        clear hdec hbel hf hz HD1 hw8
        obtain ⟨w2, g2, t2, rfl, hr3, hw2, hw28, hd2, hg0, hdec, hbel⟩ := hcut
        have c0 := hdec.out.nd
        have cf := hdec.out.fz
        simp only at c0
        obtain ⟨S2, hS2⟩ : ∃ S2, S2 = DS.mk g2 w2 (D - ((r : Int) - 1)) t2 := ⟨_, rfl⟩
        have hR2 : R = trimS S2 := by
          have a1 := HRS.out
          have a2 := hr2.out
          have a3 := hr3.out
          rw [HR.out, hS2]
          unfold rightS
          simp only [a1, a2, a3, HD.out]
        have hq : 1 ≤ n / 2 ^ k := Nat.div_pos (HPE.out ▸ HPn.out) (Nat.two_pow_pos k)
        have hok := trimS_ok S2 (by rw [hS2]; exact hw28) (by rw [hS2]; exact hw2) (by rw [hS2]; exact hd2.out) (by
          rw [hS2]
          show g2 0 ≠ 48
          rw [hg0.out]
          generalize n / 2 ^ k = x at hq ⊢
          omega)
        rw [← hR2] at hok
        obtain ⟨ok1, ok2, ok3⟩ := hok
        have HOK1 := Lib.hid ok1
        have hfall : Hid (S.dp - 19 ≤ R.dp ∧ R.dp ≤ S.dp ∧ R.dp * 10 + R.g 0 < S.dp * 10 + S.g 0) := by
          have e1 : R.dp = S.dp - ((r : Int) - 1) := by rw [ok2, hS2, HD.out]
          have e2 : R.g 0 = n / 2 ^ k + 48 := by rw [ok3, hS2]; exact hg0.out
          have f1 := HOK.out.first
          have f2 := HOK.out.dig 0 HOK.out.pos
          have f3 := ok1.dig 0 ok1.pos
          refine ⟨by omega, by omega, ?_⟩
          by_cases hr : r = 1
          · subst hr
            have e3 := rs1_one S.g S.nd k n HOK.out.pos HRS.out
            have e4 : n / 2 ^ k < n := Nat.div_lt_self (by omega) (Nat.one_lt_two_pow (by omega))
            generalize n / 2 ^ k = x at e2 e4
            omega
          · omega
        have HS2 := Lib.hid hS2
        have HR2 := Lib.hid hR2
        clear hS2 hR2 hq ok1 ok2 ok3
        have C118 : Hid (Calls Tryz.prog 118 #[.pointer (some ⟨b, 0, none⟩)] (wc.setCell ⟨b, 800, none⟩ (.int .i64 w2)) fun e w' => e = .returned (.tuple #[]) ∧ DecAt w' b neg R ∧ Below b w w') := by
          refine (trim_any b neg S2 _ (by rw [HS2.out]; exact hdec.out.setNd w2) (by rw [HS2.out]; exact hw28)).mono ?_
          rintro e w' ⟨h1, h2, h3⟩
          rw [← HR2.out] at h2
          exact ⟨h1, h2, (Below.setCell (p := ⟨b, 800, none⟩) hbel (Nat.le_refl b) _).trans h3⟩
        go_wp2_with (go_at_call 118; refine C118.out.mono ?_; rintro e w9 ⟨rfl, q1, q2⟩)
        go_end0
        exact ⟨⟨rfl, q1, HOK1.out, hfall.out⟩, q2⟩

end Go.Proofs.YtfmkfnochjeleaaGreatDoor
