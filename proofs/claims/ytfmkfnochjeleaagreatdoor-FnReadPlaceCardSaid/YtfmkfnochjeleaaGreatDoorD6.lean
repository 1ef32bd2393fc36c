import Derived.Test.YtfmkfnochjeleaaGreatDoorD5
import Derived.Scope
import Derived.WalkMore
namespace Go.Proofs.YtfmkfnochjeleaaGreatDoor
open Go.RowKit

/-- the ways out of a scope with two labels, no jump behind either -/
def twoExit (P : Program) (l0 : Nat) (r0 : Code) (l1 : Nat) (r1 : Code) (Q : Exit → Act → World → Prop) : Exit → Act → World → Prop
  | .goto l, a, w => (l = l0 ∧ r0.wp P (Exit.noGoto Q) a w) ∨ (l = l1 ∧ r1.wp P (Exit.noGoto Q) a w)
  | e, a, w => Q e a w

theorem wp_scope_two {P : Program} {a : Act} {w : World} {Q : Exit → Act → World → Prop} {c r0 r1 : Code} (l0 l1 : Nat) (h0 : findLabel c l0 = some r0) (h1 : findLabel c l1 = some r1)
    (first : c.wp P (twoExit P l0 r0 l1 r1 Q) a w) : (Code.scope c).wp P Q a w := by
  intro b k cs
  have hg0 : gotoIn l0 (.inScope c :: k) = some (.code r0 :: .inScope c :: k) := by simp [gotoIn, h0]
  have hg1 : gotoIn l1 (.inScope c :: k) = some (.code r1 :: .inScope c :: k) := by simp [gotoIn, h1]
  have fin : ∀ (r : Code) a w, r.wp P (Exit.noGoto Q) a w → ∃ e a' w', Q e a' w' ∧ Arrives P (lone (b.at a (.code r :: .inScope c :: k)) cs w) b k cs e a' w' := by
    intro r a w h
    obtain ⟨e, a₁, w₁, hq, harr⟩ := h b (.inScope c :: k) cs
    cases e with
    | normal => exact ⟨.normal, a₁, w₁, hq, Steps.trans harr (.one step_inScope)⟩
    | exit id => exact ⟨.exit id, a₁, w₁, hq, fun k' hk => harr k' (by simp [exitTo, hk])⟩
    | goto l => exact hq.elim
    | ret => exact ⟨_, a₁, w₁, hq, harr⟩
    | panic ch => exact ⟨_, a₁, w₁, hq, harr⟩
    | outgrown => exact ⟨_, a₁, w₁, hq, harr⟩
  obtain ⟨e, a₁, w₁, hq, harr⟩ := first b (.inScope c :: k) cs
  cases e with
  | normal => exact ⟨.normal, a₁, w₁, hq, .head step_scope (Steps.trans harr (.one step_inScope))⟩
  | exit id => exact ⟨.exit id, a₁, w₁, hq, fun k' hk => .head step_scope (harr k' (by simp [exitTo, hk]))⟩
  | goto l' =>
    rcases hq with ⟨rfl, hr⟩ | ⟨rfl, hr⟩
    · obtain ⟨e₂, a₂, w₂, hq₂, harr₂⟩ := fin _ a₁ w₁ hr
      exact ⟨e₂, a₂, w₂, hq₂, .of_steps (.head step_scope (harr _ hg0)) harr₂⟩
    · obtain ⟨e₂, a₂, w₂, hq₂, harr₂⟩ := fin _ a₁ w₁ hr
      exact ⟨e₂, a₂, w₂, hq₂, .of_steps (.head step_scope (harr _ hg1)) harr₂⟩
  | ret => exact ⟨_, a₁, w₁, hq, .of_steps (.one step_scope) harr⟩
  | panic ch => exact ⟨_, a₁, w₁, hq, .of_steps (.one step_scope) harr⟩
  | outgrown => exact ⟨_, a₁, w₁, hq, .of_steps (.one step_scope) harr⟩

def ptn (n : Nat) : Nat := if 9 ≤ n then 27 else [1, 3, 6, 9, 13, 16, 19, 23, 26].getD n 0
theorem ptn_le (n : Nat) : 1 ≤ ptn n ∧ ptn n ≤ 27 := by
  unfold ptn
  by_cases h : 9 ≤ n
  · rw [if_pos h]; decide
  · rw [if_neg h]
    have : ∀ n : Fin 9, 1 ≤ [1, 3, 6, 9, 13, 16, 19, 23, 26].getD n.val 0 ∧ [1, 3, 6, 9, 13, 16, 19, 23, 26].getD n.val 0 ≤ 27 := by decide
    exact this ⟨n, by omega⟩

/-- powtab in memory -/
def ShTab (B : Nat) (w : World) : Prop := ∃ a o, w.cell? ⟨8, 0, none⟩ = some (.slice (some ⟨a, o, none⟩) 9 9) ∧ a < B ∧ 8 < B ∧ ∀ i, i < 9 → w.cell? ⟨a, o + i, none⟩ = some (.int .i64 (ptn i))

theorem ShTab.below {B b : Nat} {w w' : World} (h : ShTab B w) (hb : Below b w w') (hB : B ≤ b) : ShTab B w' := by
  obtain ⟨a, o, i0, ia, ib, i1⟩ := h
  refine ⟨a, o, ?_, ia, ib, fun i hi => ?_⟩
  · rw [hb.cell (show (⟨8, 0, none⟩ : Addr).block < b by show 8 < b; omega)]; exact i0
  · rw [hb.cell (show (⟨a, o + i, none⟩ : Addr).block < b by show a < b; omega)]; exact i1 i hi
theorem InfoTab.below {b : Nat} {w w' : World} (h : InfoTab w) (hb : Below b w w') (hB : 6 < b) : InfoTab w' := by
  obtain ⟨i0, i1, i2⟩ := h
  refine ⟨?_, ?_, ?_⟩
  · rw [hb.cell (show (⟨6, 0, none⟩ : Addr).block < b from hB)]; exact i0
  · rw [hb.cell (show (⟨6, 1, none⟩ : Addr).block < b from hB)]; exact i1
  · rw [hb.cell (show (⟨6, 2, none⟩ : Addr).block < b from hB)]; exact i2

/-- floatBits, the first loop: down to the point -/
def fb1 : Nat → DS → Int → DS × Int
  | 0, S, e => (S, e)
  | f + 1, S, e => if 0 < S.dp then fb1 f (shR (ptn S.dp.toNat) S (ptn S.dp.toNat)) (e + ptn S.dp.toNat) else (S, e)
/-- the second: up to 0.5 -/
def fb2 : Nat → DS → Int → DS × Int
  | 0, S, e => (S, e)
  | f + 1, S, e => if S.dp < 0 ∨ (S.dp = 0 ∧ S.g 0 < 53) then fb2 f (shL (ptn (-S.dp).toNat) S (ptn (-S.dp).toNat)) (e - ptn (-S.dp).toNat) else (S, e)
def fbPack (m : Nat) (e : Int) : Nat := m % 4503599627370496 + (if m / 4503599627370496 % 2 = 0 then 0 else (e + 1023).toNat) * 4503599627370496
def fbEnd (m : Nat) (e : Int) : Nat := if m = 9007199254740992 then (if 2047 ≤ e + 1 + 1023 then Fl.I else fbPack 4503599627370496 (e + 1)) else fbPack m e
/-- the number's bits, without its sign -/
def fbits (S : DS) : Nat :=
  if 310 < S.dp then Fl.I else if S.dp < -330 then 0 else
  let a := fb1 4000 S 0
  let c := fb2 4000 a.1 a.2
  let d := if c.2 - 1 < -1022 then shR (-1022 - (c.2 - 1)).toNat c.1 (-1022 - (c.2 - 1)).toNat else c.1
  let e := if c.2 - 1 < -1022 then -1022 else c.2 - 1
  if 2047 ≤ e + 1023 then Fl.I else fbEnd (rint (shL 53 d 53)) e

theorem fb1_end (f : Nat) (S : DS) (e : Int) (h : ¬ 0 < S.dp) : fb1 f S e = (S, e) := by
  cases f with
  | zero => rfl
  | succ f => show (if 0 < S.dp then _ else _) = _; rw [if_neg h]
theorem fb2_end (f : Nat) (S : DS) (e : Int) (h : ¬ (S.dp < 0 ∨ (S.dp = 0 ∧ S.g 0 < 53))) : fb2 f S e = (S, e) := by
  cases f with
  | zero => rfl
  | succ f => show (if _ then _ else _) = _; rw [if_neg h]
theorem fb1_at (f : Nat) (S : DS) (e : Int) (h : 0 < S.dp) : fb1 (f + 1) S e = fb1 f (shR (ptn S.dp.toNat) S (ptn S.dp.toNat)) (e + ptn S.dp.toNat) := by
  show (if 0 < S.dp then _ else _) = _
  rw [if_pos h]
theorem fb2_at (f : Nat) (S : DS) (e : Int) (h : S.dp < 0 ∨ (S.dp = 0 ∧ S.g 0 < 53)) : fb2 (f + 1) S e = fb2 f (shL (ptn (-S.dp).toNat) S (ptn (-S.dp).toNat)) (e - ptn (-S.dp).toNat) := by
  show (if _ then _ else _) = _
  rw [if_pos h]

theorem and2047 : ∀ e : Fin 2048, bits .and .i64 (e.val : Int) 2047 = (e.val : Int) := by decide +kernel
theorem fin_bits (m e : Nat) (hm : m < 18446744073709551616) (he : e ≤ 2047) :
    bits .or .u64 (bits .and .u64 (m : Int) 4503599627370495) (IntKind.u64.wrap (IntKind.u64.wrap (bits .and .i64 (e : Int) 2047) * 4503599627370496)) = ((m % 4503599627370496 + e * 4503599627370496 : Nat) : Int) := by
  have h1 := and2047 ⟨e, by omega⟩
  simp only at h1
  rw [h1]
  have h2 := u64_and_nat m (2 ^ 52 - 1) hm (by decide)
  rw [Nat.and_two_pow_sub_one_eq_mod] at h2
  have e52 : (2 : Nat) ^ 52 = 4503599627370496 := by decide
  have e52b : (((2 ^ 52 - 1 : Nat)) : Int) = 4503599627370495 := by decide
  rw [e52] at h2
  rw [e52b] at h2
  rw [h2, wrapN _ (by omega)]
  have h3 : (e : Int) * 4503599627370496 = ((e * 4503599627370496 : Nat) : Int) := by omega
  rw [h3, wrapN _ (by omega), u64_or_nat _ _ (by omega) (by omega), Nat.or_comm, nat_join 52 (e * 4503599627370496) (m % 4503599627370496) (by show e * 4503599627370496 % 4503599627370496 = 0; exact Nat.mul_mod_left _ _) (by show m % 4503599627370496 < 4503599627370496; omega), Nat.add_comm]
theorem fin_sign (B : Nat) (hB : B < 9223372036854775808) : bits .or .u64 (B : Int) 9223372036854775808 = ((sgnW true + B : Nat) : Int) := by
  have h := u64_or_nat B 9223372036854775808 (by omega) (by decide)
  have e : ((9223372036854775808 : Nat) : Int) = 9223372036854775808 := rfl
  rw [e] at h
  rw [h, Nat.or_comm]
  exact congrArg Int.ofNat (sgnW_or true B hB)
theorem ret_bits {a c : Int} {x y : Bool} (h1 : a = c) (h2 : x = y) : Ending.returned (.tuple #[.int .u64 a, .bool x]) = Ending.returned (.tuple #[.int .u64 c, .bool y]) := by rw [h1, h2]
theorem fb_lt {m e : Nat} (he : e ≤ 2047) : m % 4503599627370496 + e * 4503599627370496 < 9223372036854775808 := by
  have h1 : m % 4503599627370496 < 4503599627370496 := Nat.mod_lt _ (by decide)
  omega
theorem fb_fin {m e : Nat} (he : e ≤ 2046) : decide (m % 4503599627370496 + e * 4503599627370496 = Fl.I) = false := by
  have h1 : m % 4503599627370496 < 4503599627370496 := Nat.mod_lt _ (by decide)
  have h2 : Fl.I = 9218868437227405312 := rfl
  refine decide_eq_false ?_
  rw [h2]
  omega

set_option maxHeartbeats 4000000 in
set_option maxRecDepth 100000 in
theorem bits_any (b : Nat) (neg : Bool) (S : DS) (w : World) (h : DecAt w b neg S) (ok : DOK S) (hp : -150000 ≤ S.dp) (hp2 : S.dp ≤ 150000) (B : Nat) (hC : CheatTab B w) (hT : ShTab B w) (hI : InfoTab w) (hB : B ≤ b) :
    Calls Tryz.prog 56 #[.pointer (some ⟨b, 0, none⟩), .pointer (some ⟨6, 0, none⟩)] w fun e w' => e = .returned (.tuple #[.int .u64 (sgnW neg + fbits S : Nat), .bool (decide (fbits S = Fl.I))]) ∧ Below b w w' := by
  obtain ⟨R, hR⟩ : ∃ R, R = fbits S := ⟨_, rfl⟩
  have HR := Lib.hid hR
  rw [← hR]
  clear hR
  have H := Lib.hid h
  have HOK := Lib.hid ok
  have c0 := h.nd
  have c1 := h.dp
  have hn0 : ((S.nd : Int) == 0) = false := by have := ok.pos; rw [beq_eq_false_iff_ne]; omega
  have HC := Lib.hid hC
  have HT := Lib.hid hT
  have HI := Lib.hid hI
  obtain ⟨j0, j1, j2⟩ := hI
  have c5 := h.neg
  have hb6 : 6 < b := by obtain ⟨_, _, _, _, h1, _⟩ := hT; omega
  clear h ok hC hT
  obtain ⟨D, hD⟩ : ∃ D, D = S.dp := ⟨_, rfl⟩
  have HD := Lib.hid hD
  rw [← hD] at c1 hp hp2
  clear hD
  go_enter Tryz.func56, Tryz.ntmps56
  go_wp2_with fail
  refine wp_scope_two (r0 := ?_) (r1 := ?_) 0 1 ?h0 ?h1 ?hf
  case h0 => rfl
  case h1 => rfl
  by_cases hbig : 310 < D
  · have e1 : decide (310 < D) = true := decide_eq_true hbig
    have hRI : Hid (R = 0 % 4503599627370496 + 2047 * 4503599627370496) := by
      show R = _
      rw [HR.out]
      unfold fbits
      rw [if_pos (by rw [← HD.out]; exact hbig)]
      rfl
    go_wp2_with fail
    go_step3
    refine .inr ⟨rfl, ?_⟩
    go_wp2_with fail
    go_quiet (fail)
    go_wp2_with fail
    go_step3
    go_wp2_with fail
    go_quiet (fail)
    cases neg
    · go_wp2_with fail
      rw [Exit.noGoto_ret]
      go_ret2
      refine ⟨ret_bits ((fin_bits 0 2047 (by decide) (by decide)).trans ?_) ?_, by first | exact below_drewN (Below.refl _ _) _ | exact below_drewN (below_drewN (Below.refl _ _) _) _⟩
      · rw [show R = _ from hRI.out]
        exact congrArg Int.ofNat (Nat.zero_add _).symm
      · rw [show R = _ from hRI.out]
        exact rfl
    · go_wp2_with fail
      have hsg : Hid (bits .or .u64 (bits .or .u64 (bits .and .u64 ((0 : Nat) : Int) 4503599627370495) (IntKind.u64.wrap (IntKind.u64.wrap (bits .and .i64 ((2047 : Nat) : Int) 2047) * 4503599627370496))) 9223372036854775808 = ((sgnW true + R : Nat) : Int)) := by
        show _ = _
        rw [fin_bits 0 2047 (by decide) (by decide), fin_sign _ (fb_lt (by decide)), show R = _ from hRI.out]
      go_quiet (fail)
      go_wp2_with fail
      rw [Exit.noGoto_ret]
      go_ret2
      refine ⟨ret_bits hsg.out ?_, by first | exact below_drewN (Below.refl _ _) _ | exact below_drewN (below_drewN (Below.refl _ _) _) _⟩
      rw [show R = _ from hRI.out]
      exact rfl
  · have e1 : decide (310 < D) = false := decide_eq_false hbig
    by_cases hsm : D < -330
    · have e2 : decide (D < -330) = true := decide_eq_true hsm
      have hRI : Hid (R = 0 % 4503599627370496 + 0 * 4503599627370496) := by
        show R = _
        rw [HR.out]
        unfold fbits
        rw [if_neg (by rw [← HD.out]; exact hbig), if_pos (by rw [← HD.out]; exact hsm)]
      go_wp2_with fail
      go_step3
      refine .inl ⟨rfl, ?_⟩
      go_wp2_with fail
      go_quiet (fail)
      cases neg
      · go_wp2_with fail
        rw [Exit.noGoto_ret]
        go_ret2
        refine ⟨ret_bits ((fin_bits 0 0 (by decide) (by decide)).trans ?_) ?_, by first | exact below_drewN (Below.refl _ _) _ | exact below_drewN (below_drewN (Below.refl _ _) _) _⟩
        · rw [show R = _ from hRI.out]
          exact congrArg Int.ofNat (Nat.zero_add _).symm
        · rw [show R = _ from hRI.out]
          exact (fb_fin (by decide)).symm
      · go_wp2_with fail
        have hsg : Hid (bits .or .u64 (bits .or .u64 (bits .and .u64 ((0 : Nat) : Int) 4503599627370495) (IntKind.u64.wrap (IntKind.u64.wrap (bits .and .i64 ((0 : Nat) : Int) 2047) * 4503599627370496))) 9223372036854775808 = ((sgnW true + R : Nat) : Int)) := by
          show _ = _
          rw [fin_bits 0 0 (by decide) (by decide), fin_sign _ (fb_lt (by decide)), show R = _ from hRI.out]
        go_quiet (fail)
        go_wp2_with fail
        rw [Exit.noGoto_ret]
        go_ret2
        refine ⟨ret_bits hsg.out ?_, by first | exact below_drewN (Below.refl _ _) _ | exact below_drewN (below_drewN (Below.refl _ _) _) _⟩
        rw [show R = _ from hRI.out]
        exact (fb_fin (by decide)).symm
    · have e2 : decide (D < -330) = false := decide_eq_false hsm
      have hTx := HT.out
      obtain ⟨pa, po, t0, ta, tb, t1⟩ := hTx
      go_upto_block 0 with fail
      go_cut [6] from 35 to 60 (fun ev wx => ∃ (S1 : DS) (e : Int), ev = .int .i64 e ∧ Hid (fb1 4000 S 0 = (S1, e)) ∧ S1.dp ≤ 0 ∧ -340 ≤ S1.dp ∧ 0 ≤ e ∧ e ≤ 108000 ∧ Hid (DecAt wx b neg S1) ∧ Hid (DOK S1) ∧ Below b w wx)
      case first =>
        go_wp2_with fail
        go_loopg [6] 4000 (fun gk ev wx => ∃ (S1 : DS) (e : Int), ev = .int .i64 e ∧ Hid (fb1 gk S1 e = fb1 4000 S 0) ∧ Hid (S1.dp * 10 + S1.g 0 ≤ gk) ∧ Hid (gk ≤ 4000 ∧ e + 27 * gk ≤ 108000) ∧ -340 ≤ S1.dp ∧ 0 ≤ e ∧ Hid (DecAt wx b neg S1) ∧ Hid (DOK S1) ∧ Below b w wx)
        case atStart => exact ⟨S, 0, rfl, rfl, by have := HD.out; have := (HOK.out.dig 0 HOK.out.pos).2; show _ ≤ _; omega, ⟨Nat.le_refl _, by decide⟩, by have := HD.out; omega, Int.le_refl _, H.out, HOK.out, Below.refl _ _⟩
        case round =>
          obtain ⟨S1, e, rfl, hfb, hm, hke, hd1, he0, hdec, hok, hbel⟩ := hrel
          have k1 := hdec.out.dp
          have k0 := hdec.out.nd
          have g0 := hok.out.dig 0 hok.out.pos
          have t0' := t0
          rw [← hbel.cell (show (⟨8, 0, none⟩ : Addr).block < b by show 8 < b; omega)] at t0'
          have heb : e ≤ 108000 := by have := hke.out; omega
          by_cases hpos : 0 < S1.dp
          · obtain ⟨q, hq⟩ : ∃ q : Nat, S1.dp = q := ⟨S1.dp.toNat, by omega⟩
            rw [hq] at k1 hd1 hpos
            have hqm : Hid (q * 10 + S1.g 0 ≤ gk) := by have := hm.out; show _ ≤ _; omega
            obtain ⟨gk, rfl⟩ : ∃ k, gk = k + 1 := ⟨gk - 1, by have := hqm.out; omega⟩
            have hqb : q ≤ 400 := by have := hqm.out; have := hke.out; omega
            have hlt : decide (0 < (q : Int)) = true := decide_eq_true hpos
            obtain ⟨n, hn⟩ : ∃ n, n = ptn q := ⟨_, rfl⟩
            have hnb : 1 ≤ n ∧ n ≤ 27 := by rw [hn]; exact ptn_le q
            have HN := Lib.hid hn
            obtain ⟨S2, hS2⟩ : ∃ S2, S2 = shR n S1 n := ⟨_, rfl⟩
            have hst := fb1_at gk S1 e (by rw [hq]; exact hpos)
            rw [hq, Int.toNat_natCast, ← hn, ← hS2] at hst
            have HST := Lib.hid (hst.symm.trans hfb.out)
            have C90 : Hid (∀ m, Calls Tryz.prog 90 #[.pointer (some ⟨b, 0, none⟩), .int .i64 (-(n : Int))] (wr.drewN m) fun e w' => (e = .returned (.tuple #[]) ∧ Hid (DecAt w' b neg S2) ∧ Hid (DOK S2) ∧ (((q : Int) - S2.dp) * 60 ≤ 19 * ((n : Int) + 60) ∧ S2.dp ≤ q ∧ S2.dp * 10 + S2.g 0 < q * 10 + S1.g 0)) ∧ Below b w w') := by
              intro m
              refine (shiftR_any b neg S1 n _ (hdec.out.drewN m) hok.out hnb.1 (by omega) (by omega) (by omega)).mono ?_
              rintro e w' ⟨⟨h1, h2, h3, h4⟩, h5⟩
              rw [← hS2, hq] at h4
              rw [← hS2] at h2 h3
              exact ⟨⟨h1, h2, h3, h4⟩, (below_drewN hbel m).trans h5⟩
            clear hn hst hS2 hfb
            by_cases h9 : 9 ≤ q
            · have h9d : decide (9 ≤ (q : Int)) = true := decide_eq_true (by omega)
              have hn27 : n = 27 := by rw [HN.out]; unfold ptn; rw [if_pos h9]
              subst hn27
              go_upto_region 13 with fail
              go_quiet (fail)
              go_wp2_with (go_at_call 90; refine (C90.out _).mono ?_; rintro e w9 ⟨⟨rfl, q1, q2, q3, q4, q5⟩, q6⟩)
              go_roundg gk
              case measure => omega
              case rel =>
                exact ⟨S2, e + 27, rfl, HST.out, by have := hqm.out; show _ ≤ _; omega, by have := hke.out; exact ⟨by omega, by omega⟩, by omega, by omega, q1, q2, q6⟩
            · have h9d : decide (9 ≤ (q : Int)) = false := decide_eq_false (by omega)
              have hpt : wr.cell? ⟨pa, po + q, none⟩ = some (.int .i64 n) := by
                rw [hbel.cell (show (⟨pa, po + q, none⟩ : Addr).block < b by show pa < b; omega), HN.out]
                exact t1 q (by omega)
              have hq9 : (q : Int) < 9 := by omega
              go_upto_region 13 with fail
              go_quiet (fail)
              go_upto_region 15 with fail
              go_quiet (fail)
              go_wp2_with (go_at_call 90; refine (C90.out _).mono ?_; rintro e w9 ⟨⟨rfl, q1, q2, q3, q4, q5⟩, q6⟩)
              go_roundg gk
              case measure => omega
              case rel =>
                exact ⟨S2, e + n, rfl, HST.out, by have := hqm.out; show _ ≤ _; omega, by have := hke.out; exact ⟨by omega, by omega⟩, by omega, by omega, q1, q2, q6⟩
          · have hlt : decide (0 < S1.dp) = false := decide_eq_false hpos
            go_wp2_with fail
            go_meet
            have := fb1_end gk S1 e (by omega)
            exact ⟨S1, e, rfl, hfb.out.symm.trans this, by omega, hd1, he0, heb, hdec, hok, hbel⟩
      case rest =>
        obtain ⟨S1, e, rfl, hfb1, hd1, hd2, he0, he1, hdec, hok, hbel⟩ := hcut
        go_upto_block 2 with fail
        go_cut [6] from 61 to 102 (fun ev wx => ∃ (S2 : DS) (e2 : Int), ev = .int .i64 e2 ∧ Hid (fb2 4000 S1 e = (S2, e2)) ∧ S2.dp ≤ 400 ∧ -400 ≤ S2.dp ∧ -108000 ≤ e2 ∧ e2 ≤ 108000 ∧ Hid (DecAt wx b neg S2) ∧ Hid (DOK S2) ∧ Below b w wx)
        case first =>
          go_wp2_with fail
          go_loopg [6] 4000 (fun gk ev wx => ∃ (S2 : DS) (e2 : Int), ev = .int .i64 e2 ∧ Hid (fb2 gk S2 e2 = fb2 4000 S1 e) ∧ Hid (-S2.dp * 10 + (58 - S2.g 0) ≤ gk) ∧ Hid (gk ≤ 4000 ∧ -108000 + 27 * gk ≤ e2) ∧ -400 ≤ S2.dp ∧ S2.dp ≤ 400 ∧ e2 ≤ 108000 ∧ Hid (DecAt wx b neg S2) ∧ Hid (DOK S2) ∧ Below b w wx)
          case atStart => exact ⟨S1, e, rfl, rfl, by have := (hok.out.dig 0 hok.out.pos).1; show _ ≤ _; omega, ⟨Nat.le_refl _, by omega⟩, by omega, by omega, he1, hdec, hok, hbel⟩
          case round =>
            clear hdec hok hbel hd1 hd2 he0 he1
            obtain ⟨S2, e2, rfl, hfb, hm, hke, hd1, hd2, he0, hdec, hok, hbel⟩ := hrel
            have k1 := hdec.out.dp
            have k0 := hdec.out.d 0 (by decide)
            have g0 := hok.out.dig 0 hok.out.pos
            have t0' := t0
            rw [← hbel.cell (show (⟨8, 0, none⟩ : Addr).block < b by show 8 < b; omega)] at t0'
            have heb : -108000 ≤ e2 := by have := hke.out; omega
            by_cases hpos : S2.dp < 0 ∨ (S2.dp = 0 ∧ S2.g 0 < 53)
            · obtain ⟨q, hq⟩ : ∃ q : Nat, S2.dp = -(q : Int) := ⟨(-S2.dp).toNat, by omega⟩
              have hqm : Hid (q * 10 + (58 - S2.g 0) ≤ gk) := by have := hm.out; show _ ≤ _; omega
              obtain ⟨gk, rfl⟩ : ∃ k, gk = k + 1 := ⟨gk - 1, by have := hqm.out; omega⟩
              have hst := fb2_at gk S2 e2 hpos
              rw [hq] at k1 hd1 hpos
              have hqb : q ≤ 400 := by have := hqm.out; have := hke.out; omega
              obtain ⟨n, hn⟩ : ∃ n, n = ptn q := ⟨_, rfl⟩
              have hnb : 1 ≤ n ∧ n ≤ 27 := by rw [hn]; exact ptn_le q
              have HN := Lib.hid hn
              obtain ⟨S3, hS3⟩ : ∃ S3, S3 = shL n S2 n := ⟨_, rfl⟩
              rw [hq, show (-(-(q : Int))).toNat = q by omega, ← hn, ← hS3] at hst
              have HST := Lib.hid (hst.symm.trans hfb.out)
              have C90 : Hid (∀ m, Calls Tryz.prog 90 #[.pointer (some ⟨b, 0, none⟩), .int .i64 (n : Int)] (wr.drewN m) fun e w' => (e = .returned (.tuple #[]) ∧ Hid (DecAt w' b neg S3) ∧ Hid (DOK S3) ∧ (-(q : Int) ≤ S3.dp ∧ (S3.dp + q) * 60 ≤ 19 * ((n : Int) + 60) ∧ -(q : Int) * 10 + S2.g 0 < S3.dp * 10 + S3.g 0)) ∧ Below b w w') := by
                intro m
                refine (shiftL_any b neg S2 n _ (hdec.out.drewN m) hok.out hnb.1 (by omega) (by omega) (by omega) B (HC.out.below (below_drewN hbel m) hB) hB).mono ?_
                rintro e w' ⟨⟨h1, h2, h3, h4⟩, h5⟩
                rw [← hS3, hq] at h4
                rw [← hS3] at h2 h3
                exact ⟨⟨h1, h2, h3, by omega⟩, (below_drewN hbel m).trans h5⟩
              clear hn hst hS3 hfb
              by_cases h9 : 9 ≤ q
              · have h9d : decide (9 ≤ (q : Int)) = true := decide_eq_true (by omega)
                have hlt : decide (-(q : Int) < 0) = true := decide_eq_true (by omega)
                have hn27 : n = 27 := by rw [HN.out]; unfold ptn; rw [if_pos h9]
                subst hn27
                clear hpos
                go_upto_region 20 with fail
                go_quiet (fail)
                go_wp2_with (go_at_call 90; refine (C90.out _).mono ?_; rintro e w9 ⟨⟨rfl, q1, q2, q3, q4, q5⟩, q6⟩)
                go_roundg gk
                case measure => omega
                case rel =>
                  exact ⟨S3, e2 - 27, rfl, HST.out, by have := hqm.out; show _ ≤ _; omega, by have := hke.out; exact ⟨by omega, by omega⟩, by omega, by omega, by omega, q1, q2, q6⟩
              · have hpt : wr.cell? ⟨pa, po + q, none⟩ = some (.int .i64 n) := by
                  rw [hbel.cell (show (⟨pa, po + q, none⟩ : Addr).block < b by show pa < b; omega), HN.out]
                  exact t1 q (by omega)
                have hq9 : (q : Int) < 9 := by omega
                by_cases hq0 : q = 0
                · subst hq0
                  rw [Nat.add_zero] at hpt
                  have htest : decide ((S2.g 0 : Int) < 53) = true := decide_eq_true (by omega)
                  clear hpos
                  go_upto_region 20 with fail
                  go_quiet (fail)
                  go_upto_region 22 with fail
                  go_quiet (fail)
                  go_wp2_with (go_at_call 90; refine (C90.out _).mono ?_; rintro e w9 ⟨⟨rfl, q1, q2, q3, q4, q5⟩, q6⟩)
                  go_roundg gk
                  case measure => omega
                  case rel =>
                    exact ⟨S3, e2 - n, rfl, HST.out, by have := hqm.out; show _ ≤ _; omega, by have := hke.out; exact ⟨by omega, by omega⟩, by omega, by omega, by omega, q1, q2, q6⟩
                · have h9d : decide (9 ≤ (q : Int)) = false := decide_eq_false (by omega)
                  have hlt : decide (-(q : Int) < 0) = true := decide_eq_true (by omega)
                  clear hpos
                  go_upto_region 20 with fail
                  go_quiet (fail)
                  go_upto_region 22 with fail
                  go_quiet (fail)
                  go_wp2_with (go_at_call 90; refine (C90.out _).mono ?_; rintro e w9 ⟨⟨rfl, q1, q2, q3, q4, q5⟩, q6⟩)
                  go_roundg gk
                  case measure => omega
                  case rel =>
                    exact ⟨S3, e2 - n, rfl, HST.out, by have := hqm.out; show _ ≤ _; omega, by have := hke.out; exact ⟨by omega, by omega⟩, by omega, by omega, by omega, q1, q2, q6⟩
            · have hen := fb2_end gk S2 e2 hpos
              have HEN := Lib.hid (hfb.out.symm.trans hen)
              obtain ⟨P2, hP2⟩ : ∃ P2, P2 = S2.dp := ⟨_, rfl⟩
              have HP2 := Lib.hid hP2
              rw [← hP2] at k1 hd1 hd2 hpos
              clear hP2 hfb hen
              have hlt : decide (P2 < 0) = false := decide_eq_false (by omega)
              by_cases hq0 : P2 = 0
              · subst hq0
                have htest : decide ((S2.g 0 : Int) < 53) = false := decide_eq_false (by omega)
                clear hpos
                go_wp2_with fail
                go_meet
                exact ⟨S2, e2, rfl, HEN.out, by have := HP2.out; omega, by have := HP2.out; omega, heb, he0, hdec, hok, hbel⟩
              · have hz : (P2 == 0) = false := by rw [beq_eq_false_iff_ne]; exact hq0
                clear hpos
                go_wp2_with fail
                go_meet
                exact ⟨S2, e2, rfl, HEN.out, by have := HP2.out; omega, by have := HP2.out; omega, heb, he0, hdec, hok, hbel⟩
        case rest =>
          clear hdec hok hbel hd1 hd2 he0 he1
          obtain ⟨S2, e2, rfl, hfb2, hd1, hd2, he0, he1, hdec, hok, hbel⟩ := hcut
          have i0 := hbel.cell (show (⟨6, 0, none⟩ : Addr).block < b from hb6)
          have i1 := hbel.cell (show (⟨6, 1, none⟩ : Addr).block < b from hb6)
          have i2 := hbel.cell (show (⟨6, 2, none⟩ : Addr).block < b from hb6)
          rw [j0] at i0
          rw [j1] at i1
          rw [j2] at i2
          obtain ⟨x, hx⟩ : ∃ x : Int, x = e2 - 1 := ⟨_, rfl⟩
          obtain ⟨Sd, hSd⟩ : ∃ Sd, Sd = if x < -1022 then shR (-1022 - x).toNat S2 (-1022 - x).toNat else S2 := ⟨_, rfl⟩
          obtain ⟨E, hE⟩ : ∃ E : Int, E = if x < -1022 then -1022 else x := ⟨_, rfl⟩
          have hEb : -1022 ≤ E ∧ E ≤ 108000 := by rw [hE]; split <;> omega
          obtain ⟨db, hdb⟩ : ∃ db, db = decide (x < -1022) := ⟨_, rfl⟩
          have HE := Lib.hid hE
          have HSd := Lib.hid hSd
          have HDB := Lib.hid hdb
          have HX := Lib.hid hx
          have hx1 : -109000 ≤ x ∧ x ≤ 109000 := by omega
          clear hSd hE
          go_upto_if 111 with fail
          rw [← hx, ← hdb]
          clear hx hdb
          go_cut [6] from 112 to 125 (fun ev wx => ev = .int .i64 E ∧ Hid (DecAt wx b neg Sd) ∧ Hid (DOK Sd) ∧ -50000 ≤ Sd.dp ∧ Sd.dp ≤ 400 ∧ Below b w wx)
          case first =>
            cases db
            · have hden : ¬ x < -1022 := of_decide_eq_false HDB.out.symm
              have h1 := HE.out
              have h2 := HSd.out
              rw [if_neg hden] at h1 h2
              clear hden
              have H1 := Lib.hid h1
              have H2 := Lib.hid h2
              clear h1 h2
              go_wp2_with fail
              go_meet
              exact ⟨congrArg (Value.int IntKind.i64) H1.out.symm, by rw [H2.out]; exact hdec, by rw [H2.out]; exact hok, by rw [H2.out]; omega, by rw [H2.out]; exact hd1, hbel⟩
            · have hden : x < -1022 := of_decide_eq_true HDB.out.symm
              obtain ⟨q, hq⟩ : ∃ q : Nat, -1022 - x = q := ⟨(-1022 - x).toNat, by omega⟩
              have C90 : Hid (Calls Tryz.prog 90 #[.pointer (some ⟨b, 0, none⟩), .int .i64 (-(q : Int))] wc fun e w' => (e = .returned (.tuple #[]) ∧ Hid (DecAt w' b neg Sd) ∧ Hid (DOK Sd) ∧ ((S2.dp - Sd.dp) * 60 ≤ 19 * ((q : Int) + 60) ∧ Sd.dp ≤ S2.dp)) ∧ Below b w w') := by
                have hs := HSd.out
                rw [if_pos hden, hq, Int.toNat_natCast] at hs
                refine (shiftR_any b neg S2 q _ hdec.out hok.out (by omega) (by omega) (by omega) (by omega)).mono ?_
                rintro e w' ⟨⟨h1, h2, h3, h4⟩, h5⟩
                rw [← hs] at h4 h2 h3
                exact ⟨⟨h1, h2, h3, by omega⟩, hbel.trans h5⟩
              have hEE : Hid (E = -1022) := by show _ = _; rw [HE.out, if_pos hden]
              clear hden
              go_wp2_with (go_at_call 90; refine C90.out.mono ?_; rintro e w9 ⟨⟨rfl, q1, q2, q3, q4⟩, q6⟩)
              go_meet
              exact ⟨congrArg (Value.int IntKind.i64) (by have := hEE.out; omega), q1, q2, by omega, by omega, q6⟩
          case rest =>
            clear hdec hok hbel hd1 hd2 he0 he1
            obtain ⟨rfl, hdec, hok, hd1, hd2, hbel⟩ := hcut
            have hRR : Hid (R = if 2047 ≤ E + 1023 then Fl.I else fbEnd (rint (shL 53 Sd 53)) E) := by
              have a0 := HX.out
              have a1 := HE.out
              have a2 := HSd.out
              show R = _
              rw [HR.out]
              unfold fbits
              rw [if_neg (by rw [← HD.out]; exact hbig), if_neg (by rw [← HD.out]; exact hsm), hfb1.out]
              simp only [hfb2.out, ← a0, ← a1, ← a2]
            obtain ⟨e', he'⟩ : ∃ e' : Nat, E = (e' : Int) - 1023 := ⟨(E + 1023).toNat, by omega⟩
            subst he'
            have i0 := hbel.cell (show (⟨6, 0, none⟩ : Addr).block < b from hb6)
            have i1 := hbel.cell (show (⟨6, 1, none⟩ : Addr).block < b from hb6)
            have i2 := hbel.cell (show (⟨6, 2, none⟩ : Addr).block < b from hb6)
            rw [j0] at i0
            rw [j1] at i1
            rw [j2] at i2
            have c5' := hdec.out.neg
            by_cases hov1 : 2047 ≤ e'
            · have hovd : decide (2047 ≤ (e' : Int)) = true := decide_eq_true (by omega)
              have hRv : R = 0 % 4503599627370496 + 2047 * 4503599627370496 := by
                rw [hRR.out, if_pos (by omega)]; rfl
              have hov : Hid (decide (R = Fl.I) = true) := by
                show _ = _
                rw [hRv]
                rfl
              have hfin : Hid (bits .or .u64 (bits .and .u64 0 4503599627370495) (IntKind.u64.wrap (IntKind.u64.wrap (bits .and .i64 2047 2047) * 4503599627370496)) = (R : Int)) := by
                show _ = _
                rw [hRv]
                exact fin_bits 0 2047 (by decide) (by decide)
              have hsg : Hid (bits .or .u64 (bits .or .u64 (bits .and .u64 0 4503599627370495) (IntKind.u64.wrap (IntKind.u64.wrap (bits .and .i64 2047 2047) * 4503599627370496))) 9223372036854775808 = ((sgnW true + R : Nat) : Int)) := by
                show _ = _
                rw [hfin.out]
                exact fin_sign R (by rw [hRv]; exact fb_lt (by omega))
              clear hRv
              go_upto_region 30 with fail
              go_quiet (fail)
              go_wp2_with fail
              go_step3
              refine .inr ⟨rfl, ?_⟩
              go_wp2_with fail
              go_quiet (fail)
              go_wp2_with fail
              go_step3
              go_wp2_with fail
              go_quiet (fail)
              cases neg
              · go_wp2_with fail
                rw [Exit.noGoto_ret]
                go_ret2
                exact ⟨ret_bits (hfin.out.trans (congrArg Int.ofNat (Nat.zero_add _).symm)) hov.out.symm, by first | exact below_drewN (hbel) _ | exact below_drewN (below_drewN (hbel) _) _ | exact below_drewN (below_drewN (below_drewN (hbel) _) _) _ | exact below_drewN (below_drewN (below_drewN (below_drewN (hbel) _) _) _) _⟩
              · go_wp2_with fail
                go_quiet (fail)
                go_wp2_with fail
                rw [Exit.noGoto_ret]
                go_ret2
                exact ⟨ret_bits hsg.out hov.out.symm, by first | exact below_drewN (hbel) _ | exact below_drewN (below_drewN (hbel) _) _ | exact below_drewN (below_drewN (below_drewN (hbel) _) _) _ | exact below_drewN (below_drewN (below_drewN (below_drewN (hbel) _) _) _) _⟩
            · have hovd : decide (2047 ≤ (e' : Int)) = false := decide_eq_false (by omega)
              have hRR2 : Hid (R = fbEnd (rint (shL 53 Sd 53)) ((e' : Int) - 1023)) := by
                show R = _
                rw [hRR.out, if_neg (by omega)]
              obtain ⟨S3, hS3⟩ : ∃ S3, S3 = shL 53 Sd 53 := ⟨_, rfl⟩
              rw [← hS3] at hRR2
              have C90 : Hid (∀ m, Calls Tryz.prog 90 #[.pointer (some ⟨b, 0, none⟩), .int .i64 53] (wc.drewN m) fun e w' => (e = .returned (.tuple #[]) ∧ Hid (DecAt w' b neg S3) ∧ Hid (DOK S3) ∧ (Sd.dp ≤ S3.dp ∧ (S3.dp - Sd.dp) * 60 ≤ 2147)) ∧ Below b w w') := by
                intro m
                refine (shiftL_any b neg Sd 53 _ (hdec.out.drewN m) hok.out (by omega) (by omega) (by omega) (by omega) B (HC.out.below (below_drewN hbel m) hB) hB).mono ?_
                rintro e w' ⟨⟨h1, h2, h3, h4⟩, h5⟩
                rw [← hS3] at h4 h2 h3
                exact ⟨⟨h1, h2, h3, by omega⟩, (below_drewN hbel m).trans h5⟩
              clear hS3
              go_upto_region 30 with fail
              go_quiet (fail)
              go_upto_region 32 with (go_at_call 90; refine (C90.out _).mono ?_; rintro e w9 ⟨⟨rfl, q1, q2, q3, q4⟩, q6⟩)
              have C91 := Lib.hid (rint_any b neg S3 w9 q1.out q2.out.nd q2.out.dig (by omega) (by omega))
              obtain ⟨m, hm⟩ : ∃ m, m = rint S3 := ⟨_, rfl⟩
              have hmb : m < 18446744073709551616 := by
                rw [hm]
                unfold rint
                split
                · decide
                · exact Nat.mod_lt _ (by decide)
              rw [← hm] at C91 hRR2
              clear hm
              obtain ⟨M, hM⟩ : ∃ M : Int, M = m := ⟨_, rfl⟩
              rw [← hM] at C91
              have hM0 : 0 ≤ M := by omega
              have hM1 : M ≤ 18446744073709551615 := by omega
              have HM := Lib.hid hM
              have Hmb := Lib.hid hmb
              have i0' := q6.cell (show (⟨6, 0, none⟩ : Addr).block < b from hb6)
              have i1' := q6.cell (show (⟨6, 1, none⟩ : Addr).block < b from hb6)
              have i2' := q6.cell (show (⟨6, 2, none⟩ : Addr).block < b from hb6)
              rw [j0] at i0'
              rw [j1] at i1'
              rw [j2] at i2'
              have c6 := q1.out.neg
              have hbit : Hid (bits .and .u64 M 4503599627370496 = ((m / 4503599627370496 % 2 * 4503599627370496 : Nat) : Int)) := by
                have h := u64_and_nat m 4503599627370496 hmb (by decide)
                have h2 := nat_bit 52 m
                have e52 : (2 : Nat) ^ 52 = 4503599627370496 := by decide
                rw [e52] at h2
                rw [h2] at h
                show _ = _
                rw [hM]
                exact h
              by_cases hmm : m = 9007199254740992
              · have hM3 : M = 9007199254740992 := by omega
                have hRR3 : Hid (R = if 2047 ≤ (e' : Int) - 1023 + 1 + 1023 then Fl.I else fbPack 4503599627370496 ((e' : Int) - 1023 + 1)) := by
                  show R = _
                  rw [hRR2.out]
                  unfold fbEnd
                  rw [if_pos hmm]
                clear hbit HM hM hM0 hM1 hmb hmm
                subst hM3
                by_cases hov2 : 2047 ≤ e' + 1
                · have hovd2 : decide (2047 ≤ (e' : Int) + 1) = true := decide_eq_true (by omega)
                  have hRv : R = 0 % 4503599627370496 + 2047 * 4503599627370496 := by
                    rw [hRR3.out, if_pos (by omega)]; rfl
                  have hov : Hid (decide (R = Fl.I) = true) := by
                    show _ = _
                    rw [hRv]
                    rfl
                  have hfin : Hid (bits .or .u64 (bits .and .u64 0 4503599627370495) (IntKind.u64.wrap (IntKind.u64.wrap (bits .and .i64 2047 2047) * 4503599627370496)) = (R : Int)) := by
                    show _ = _
                    rw [hRv]
                    exact fin_bits 0 2047 (by decide) (by decide)
                  have hsg : Hid (bits .or .u64 (bits .or .u64 (bits .and .u64 0 4503599627370495) (IntKind.u64.wrap (IntKind.u64.wrap (bits .and .i64 2047 2047) * 4503599627370496))) 9223372036854775808 = ((sgnW true + R : Nat) : Int)) := by
                    show _ = _
                    rw [hfin.out]
                    exact fin_sign R (by rw [hRv]; exact fb_lt (by omega))
                  clear hRv
                  go_upto_region 36 with (go_at_call 91; refine C91.out.mono ?_; rintro e w' ⟨rfl, rfl⟩)
                  go_quiet (fail)
                  go_wp2_with fail
                  go_step3
                  refine .inr ⟨rfl, ?_⟩
                  go_wp2_with fail
                  go_quiet (fail)
                  go_wp2_with fail
                  go_step3
                  go_wp2_with fail
                  go_quiet (fail)
                  cases neg
                  · go_wp2_with fail
                    rw [Exit.noGoto_ret]
                    go_ret2
                    exact ⟨ret_bits (hfin.out.trans (congrArg Int.ofNat (Nat.zero_add _).symm)) hov.out.symm, by first | exact below_drewN (q6) _ | exact below_drewN (below_drewN (q6) _) _ | exact below_drewN (below_drewN (below_drewN (q6) _) _) _ | exact below_drewN (below_drewN (below_drewN (below_drewN (q6) _) _) _) _⟩
                  · go_wp2_with fail
                    go_quiet (fail)
                    go_wp2_with fail
                    rw [Exit.noGoto_ret]
                    go_ret2
                    exact ⟨ret_bits hsg.out hov.out.symm, by first | exact below_drewN (q6) _ | exact below_drewN (below_drewN (q6) _) _ | exact below_drewN (below_drewN (below_drewN (q6) _) _) _ | exact below_drewN (below_drewN (below_drewN (below_drewN (q6) _) _) _) _⟩
                · have hovd2 : decide (2047 ≤ (e' : Int) + 1) = false := decide_eq_false (by omega)
                  have hb3 : bits .and .u64 4503599627370496 4503599627370496 = 4503599627370496 := by decide
                  have hRv : R = 4503599627370496 % 4503599627370496 + (e' + 1) * 4503599627370496 := by
                    rw [hRR3.out, if_neg (by omega)]; unfold fbPack; rw [if_neg (by decide), show ((e' : Int) - 1023 + 1 + 1023).toNat = e' + 1 by omega]
                  have hov : Hid (decide (R = Fl.I) = false) := by
                    show _ = _
                    rw [hRv]
                    exact fb_fin (by omega)
                  have hfin : Hid (bits .or .u64 (bits .and .u64 4503599627370496 4503599627370495) (IntKind.u64.wrap (IntKind.u64.wrap (bits .and .i64 ((e' : Int) - 1023 + 1 + 1023) 2047) * 4503599627370496)) = (R : Int)) := by
                    show _ = _
                    rw [hRv]
                    rw [show (e' : Int) - 1023 + 1 + 1023 = ((e' + 1 : Nat) : Int) by omega]; exact fin_bits 4503599627370496 (e' + 1) (by decide) (by omega)
                  have hsg : Hid (bits .or .u64 (bits .or .u64 (bits .and .u64 4503599627370496 4503599627370495) (IntKind.u64.wrap (IntKind.u64.wrap (bits .and .i64 ((e' : Int) - 1023 + 1 + 1023) 2047) * 4503599627370496))) 9223372036854775808 = ((sgnW true + R : Nat) : Int)) := by
                    show _ = _
                    rw [hfin.out]
                    exact fin_sign R (by rw [hRv]; exact fb_lt (by omega))
                  clear hRv
                  go_upto_region 36 with (go_at_call 91; refine C91.out.mono ?_; rintro e w' ⟨rfl, rfl⟩)
                  go_quiet (fail)
                  go_wp2_with fail
                  go_step3
                  refine .inl ⟨rfl, ?_⟩
                  go_wp2_with fail
                  go_quiet (fail)
                  cases neg
                  · go_wp2_with fail
                    rw [Exit.noGoto_ret]
                    go_ret2
                    exact ⟨ret_bits (hfin.out.trans (congrArg Int.ofNat (Nat.zero_add _).symm)) hov.out.symm, by first | exact below_drewN (q6) _ | exact below_drewN (below_drewN (q6) _) _ | exact below_drewN (below_drewN (below_drewN (q6) _) _) _ | exact below_drewN (below_drewN (below_drewN (below_drewN (q6) _) _) _) _⟩
                  · go_wp2_with fail
                    go_quiet (fail)
                    go_wp2_with fail
                    rw [Exit.noGoto_ret]
                    go_ret2
                    exact ⟨ret_bits hsg.out hov.out.symm, by first | exact below_drewN (q6) _ | exact below_drewN (below_drewN (q6) _) _ | exact below_drewN (below_drewN (below_drewN (q6) _) _) _ | exact below_drewN (below_drewN (below_drewN (below_drewN (q6) _) _) _) _⟩
            
              · have hm1 : (M == 9007199254740992) = false := by rw [beq_eq_false_iff_ne]; omega
                have hRR3 : Hid (R = fbPack m ((e' : Int) - 1023)) := by
                  show R = _
                  rw [hRR2.out]
                  unfold fbEnd
                  rw [if_neg hmm]
                by_cases hz : m / 4503599627370496 % 2 = 0
                · have hbz : bits .and .u64 M 4503599627370496 = 0 := by rw [hbit.out, hz]; rfl
                  clear hM hmb hmm
                  have hRv : R = m % 4503599627370496 + 0 * 4503599627370496 := by
                    rw [hRR3.out]; unfold fbPack; rw [if_pos hz]
                  have hov : Hid (decide (R = Fl.I) = false) := by
                    show _ = _
                    rw [hRv]
                    exact fb_fin (by decide)
                  have hfin : Hid (bits .or .u64 (bits .and .u64 M 4503599627370495) (IntKind.u64.wrap (IntKind.u64.wrap (bits .and .i64 0 2047) * 4503599627370496)) = (R : Int)) := by
                    show _ = _
                    rw [hRv]
                    rw [HM.out]; exact fin_bits m 0 Hmb.out (by decide)
                  have hsg : Hid (bits .or .u64 (bits .or .u64 (bits .and .u64 M 4503599627370495) (IntKind.u64.wrap (IntKind.u64.wrap (bits .and .i64 0 2047) * 4503599627370496))) 9223372036854775808 = ((sgnW true + R : Nat) : Int)) := by
                    show _ = _
                    rw [hfin.out]
                    exact fin_sign R (by rw [hRv]; exact fb_lt (by omega))
                  clear hRv
                  go_wp2_with (go_at_call 91; refine C91.out.mono ?_; rintro e w' ⟨rfl, rfl⟩)
                  go_step3
                  refine .inl ⟨rfl, ?_⟩
                  go_wp2_with fail
                  go_quiet (fail)
                  cases neg
                  · go_wp2_with fail
                    rw [Exit.noGoto_ret]
                    go_ret2
                    exact ⟨ret_bits (hfin.out.trans (congrArg Int.ofNat (Nat.zero_add _).symm)) hov.out.symm, by first | exact below_drewN (q6) _ | exact below_drewN (below_drewN (q6) _) _ | exact below_drewN (below_drewN (below_drewN (q6) _) _) _ | exact below_drewN (below_drewN (below_drewN (below_drewN (q6) _) _) _) _⟩
                  · go_wp2_with fail
                    go_quiet (fail)
                    go_wp2_with fail
                    rw [Exit.noGoto_ret]
                    go_ret2
                    exact ⟨ret_bits hsg.out hov.out.symm, by first | exact below_drewN (q6) _ | exact below_drewN (below_drewN (q6) _) _ | exact below_drewN (below_drewN (below_drewN (q6) _) _) _ | exact below_drewN (below_drewN (below_drewN (below_drewN (q6) _) _) _) _⟩
                · have hbz : bits .and .u64 M 4503599627370496 = 4503599627370496 := by
                    rw [hbit.out, show m / 4503599627370496 % 2 = 1 by omega]
                    rfl
                  clear hM hmb hmm
                  have hRv : R = m % 4503599627370496 + e' * 4503599627370496 := by
                    rw [hRR3.out]; unfold fbPack; rw [if_neg hz, show ((e' : Int) - 1023 + 1023).toNat = e' by omega]
                  have hov : Hid (decide (R = Fl.I) = false) := by
                    show _ = _
                    rw [hRv]
                    exact fb_fin (by omega)
                  have hfin : Hid (bits .or .u64 (bits .and .u64 M 4503599627370495) (IntKind.u64.wrap (IntKind.u64.wrap (bits .and .i64 (e' : Int) 2047) * 4503599627370496)) = (R : Int)) := by
                    show _ = _
                    rw [hRv]
                    rw [HM.out]; exact fin_bits m e' Hmb.out (by omega)
                  have hsg : Hid (bits .or .u64 (bits .or .u64 (bits .and .u64 M 4503599627370495) (IntKind.u64.wrap (IntKind.u64.wrap (bits .and .i64 (e' : Int) 2047) * 4503599627370496))) 9223372036854775808 = ((sgnW true + R : Nat) : Int)) := by
                    show _ = _
                    rw [hfin.out]
                    exact fin_sign R (by rw [hRv]; exact fb_lt (by omega))
                  clear hRv
                  go_wp2_with (go_at_call 91; refine C91.out.mono ?_; rintro e w' ⟨rfl, rfl⟩)
                  go_step3
                  refine .inl ⟨rfl, ?_⟩
                  go_wp2_with fail
                  go_quiet (fail)
                  cases neg
                  · go_wp2_with fail
                    rw [Exit.noGoto_ret]
                    go_ret2
                    exact ⟨ret_bits (hfin.out.trans (congrArg Int.ofNat (Nat.zero_add _).symm)) hov.out.symm, by first | exact below_drewN (q6) _ | exact below_drewN (below_drewN (q6) _) _ | exact below_drewN (below_drewN (below_drewN (q6) _) _) _ | exact below_drewN (below_drewN (below_drewN (below_drewN (q6) _) _) _) _⟩
                  · go_wp2_with fail
                    go_quiet (fail)
                    go_wp2_with fail
                    rw [Exit.noGoto_ret]
                    go_ret2
                    exact ⟨ret_bits hsg.out hov.out.symm, by first | exact below_drewN (q6) _ | exact below_drewN (below_drewN (q6) _) _ | exact below_drewN (below_drewN (below_drewN (q6) _) _) _ | exact below_drewN (below_drewN (below_drewN (below_drewN (q6) _) _) _) _⟩

end Go.Proofs.YtfmkfnochjeleaaGreatDoor
