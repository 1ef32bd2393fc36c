import Derived.Test.YtfmkfnochjeleaaGreatDoorD4
import Derived.Test.YtfmkfnochjeleaaGreatDoorC4
namespace Go.Proofs.YtfmkfnochjeleaaGreatDoor
open Go.RowKit

def shL : Nat → DS → Nat → DS
  | 0, S, _ => S
  | f + 1, S, k => if 60 < k then shL f (leftS S 60) (k - 60) else leftS S k
def shR : Nat → DS → Nat → DS
  | 0, S, _ => S
  | f + 1, S, k => if 60 < k then shR f (rightS S 60) (k - 60) else rightS S k

theorem CheatTab.below {B b : Nat} {w w' : World} (h : CheatTab B w) (hb : Below b w w') (hB : B ≤ b) : CheatTab B w' := by
  obtain ⟨a, o, i0, ia, ib, i1⟩ := h
  refine ⟨a, o, ?_, ia, ib, fun i hi => ⟨?_, ?_⟩⟩
  · rw [hb.cell (show (⟨15, 0, none⟩ : Addr).block < b by show 15 < b; omega)]; exact i0
  · rw [hb.cell (show (⟨a, o + i * 2, none⟩ : Addr).block < b by show a < b; omega)]; exact (i1 i hi).1
  · rw [hb.cell (show (⟨a, o + i * 2 + 1, none⟩ : Addr).block < b by show a < b; omega)]; exact (i1 i hi).2

set_option maxHeartbeats 2000000 in
set_option maxRecDepth 100000 in
theorem shiftR_any (b : Nat) (neg : Bool) (S : DS) (k : Nat) (w : World) (h : DecAt w b neg S) (ok : DOK S) (hk0 : 1 ≤ k) (hk : k ≤ 120000) (hp : -100000 ≤ S.dp) (hp2 : S.dp ≤ 100000) :
    Calls Tryz.prog 90 #[.pointer (some ⟨b, 0, none⟩), .int .i64 (-(k : Int))] w fun e w' => (e = .returned (.tuple #[]) ∧ DecAt w' b neg (shR k S k) ∧ DOK (shR k S k) ∧ ((S.dp - (shR k S k).dp) * 60 ≤ 19 * ((k : Int) + 60) ∧ (shR k S k).dp ≤ S.dp ∧ (shR k S k).dp * 10 + (shR k S k).g 0 < S.dp * 10 + S.g 0)) ∧ Below b w w' := by
  obtain ⟨R, hR⟩ : ∃ R, R = shR k S k := ⟨_, rfl⟩
  have HR := Lib.hid hR
  rw [← hR]
  clear hR
  have H := Lib.hid h
  have HOK := Lib.hid ok
  have c0 := h.nd
  have hn0 : ((S.nd : Int) == 0) = false := by have := ok.pos; rw [beq_eq_false_iff_ne]; omega
  clear h ok
  obtain ⟨K, hK⟩ : ∃ K : Int, K = k := ⟨_, rfl⟩
  rw [← hK]
  have HK := Lib.hid hK
  have hK0 : 1 ≤ K := by omega
  have hK1 : K ≤ 120000 := by omega
  clear hK hk0
  have hKp : decide (0 < K) = true := decide_eq_true (by omega)
  have hKn : decide (K < 0) = false := decide_eq_false (by omega)
  go_enter Tryz.func90, Tryz.ntmps90
  go_upto_block 3 with fail
  go_cut [1] from 26 to 31 (fun kv wx => ∃ (q : Nat) (S1 : DS), kv = .int .i64 (-(q : Int)) ∧ 1 ≤ q ∧ q ≤ 60 ∧ Hid (rightS S1 q = R) ∧ Hid (DecAt wx b neg S1) ∧ Hid (DOK S1) ∧ Hid ((S.dp - S1.dp) * 60 ≤ 19 * ((k : Int) - q)) ∧ S1.dp ≤ S.dp ∧ S1.dp * 10 + S1.g 0 ≤ S.dp * 10 + S.g 0 ∧ Below b w wx)
  case first =>
    go_wp2_with fail
    go_loopw [1] (fun kv wx => ∃ (f q : Nat) (S1 : DS), kv = .int .i64 (-(q : Int)) ∧ 1 ≤ q ∧ q ≤ k ∧ q ≤ f ∧ Hid (shR f S1 q = R) ∧ Hid (DecAt wx b neg S1) ∧ Hid (DOK S1) ∧ Hid ((S.dp - S1.dp) * 60 ≤ 19 * ((k : Int) - q)) ∧ S1.dp ≤ S.dp ∧ S1.dp * 10 + S1.g 0 ≤ S.dp * 10 + S.g 0 ∧ Below b w wx) (fun kv _ => (-(intOf kv)).toNat)
    case atStart => exact ⟨k, k, S, congrArg (Value.int IntKind.i64) (by have := HK.out; omega), by have := HK.out; omega, Nat.le_refl _, Nat.le_refl _, HR.out.symm, H.out, HOK.out, by show _ ≤ _; omega, Int.le_refl _, Int.le_refl _, Below.refl _ _⟩
    case round =>
      obtain ⟨f, q, S1, rfl, hq1, hqk, hqf, hs, hdec, hok, hd1, hd2, hd3, hbel⟩ := hrel
      obtain ⟨f, rfl⟩ : ∃ f', f = f' + 1 := ⟨f - 1, by omega⟩
      by_cases h60 : 60 < q
      · have hlt : decide (-(q : Int) < -60) = true := decide_eq_true (by omega)
        have C107 := Lib.hid (right_any b neg S1 60 _ hdec.out hok.out (by decide) (by decide) (by have := hd1.out; omega) (by omega))
        have e : shR (f + 1) S1 q = shR f (rightS S1 60) (q - 60) := by
          show (if 60 < q then _ else _) = _
          rw [if_pos h60]
        have he := Lib.hid (e.symm.trans hs.out)
        have hd1b := Lib.hid hd1.out
        clear e hs
        obtain ⟨S2, hS2⟩ : ∃ S2, S2 = rightS S1 60 := ⟨_, rfl⟩
        rw [← hS2] at C107 he
        clear hS2
        go_wp2_with (go_at_call 107; refine C107.out.mono ?_; rintro e w9 ⟨⟨rfl, q1, q2, q3, q4, q5⟩, q6⟩)
        go_roundw
        case measure => simp [intOf]; omega
        case rel =>
          refine ⟨f, q - 60, S2, congrArg (Value.int IntKind.i64) (by omega), by omega, by omega, by omega, he.out, q1, q2, ?_, by omega, by omega, hbel.trans q6⟩
          have := hd1b.out
          show _ ≤ _
          omega
      · have hlt : decide (-(q : Int) < -60) = false := decide_eq_false (by omega)
        go_wp2_with fail
        go_meet
        have e : shR (f + 1) S1 q = rightS S1 q := by
          show (if 60 < q then _ else _) = _
          rw [if_neg h60]
        exact ⟨q, S1, rfl, hq1, by omega, e.symm.trans hs.out, hdec, hok, hd1, hd2, hd3, hbel⟩
  case rest =>
    obtain ⟨q, S1, rfl, hq1, hq2, hs, hdec, hok, hd1, hd2, hd3, hbel⟩ := hcut
    have C107 := Lib.hid (right_any b neg S1 q _ hdec.out hok.out hq1 hq2 (by have := hd1.out; omega) (by omega))
    rw [hs.out] at C107
    go_wp2_with (go_at_call 107; refine C107.out.mono ?_; rintro e w9 ⟨⟨rfl, q1, q2, q3, q4, q5⟩, q6⟩)
    go_end0
    exact ⟨⟨rfl, q1, q2, by have := hd1.out; have := HK.out; omega, by have := hd1.out; have := HK.out; omega, by omega⟩, hbel.trans q6⟩

set_option maxHeartbeats 2000000 in
set_option maxRecDepth 100000 in
theorem shiftL_any (b : Nat) (neg : Bool) (S : DS) (k : Nat) (w : World) (h : DecAt w b neg S) (ok : DOK S) (hk0 : 1 ≤ k) (hk : k ≤ 120000) (hp : -100000 ≤ S.dp) (hp2 : S.dp ≤ 100000) (B : Nat) (hC : CheatTab B w) (hB : B ≤ b) :
    Calls Tryz.prog 90 #[.pointer (some ⟨b, 0, none⟩), .int .i64 k] w fun e w' => (e = .returned (.tuple #[]) ∧ DecAt w' b neg (shL k S k) ∧ DOK (shL k S k) ∧ (S.dp ≤ (shL k S k).dp ∧ ((shL k S k).dp - S.dp) * 60 ≤ 19 * ((k : Int) + 60) ∧ S.dp * 10 + S.g 0 < (shL k S k).dp * 10 + (shL k S k).g 0)) ∧ Below b w w' := by
  obtain ⟨R, hR⟩ : ∃ R, R = shL k S k := ⟨_, rfl⟩
  have HR := Lib.hid hR
  rw [← hR]
  clear hR
  have H := Lib.hid h
  have HOK := Lib.hid ok
  have c0 := h.nd
  have hn0 : ((S.nd : Int) == 0) = false := by have := ok.pos; rw [beq_eq_false_iff_ne]; omega
  have HC := Lib.hid hC
  clear h ok hC
  obtain ⟨K, hK⟩ : ∃ K : Int, K = k := ⟨_, rfl⟩
  rw [← hK]
  have HK := Lib.hid hK
  have hK0 : 1 ≤ K := by omega
  have hK1 : K ≤ 120000 := by omega
  clear hK hk0
  have hKp : decide (0 < K) = true := decide_eq_true (by omega)
  have hKn : decide (K < 0) = false := decide_eq_false (by omega)
  go_enter Tryz.func90, Tryz.ntmps90
  go_upto_block 1 with fail
  go_cut [1] from 13 to 18 (fun kv wx => ∃ (q : Nat) (S1 : DS), kv = .int .i64 (q : Int) ∧ 1 ≤ q ∧ q ≤ 60 ∧ Hid (leftS S1 q = R) ∧ Hid (DecAt wx b neg S1) ∧ Hid (DOK S1) ∧ Hid ((S1.dp - S.dp) * 60 ≤ 19 * ((k : Int) - q)) ∧ S.dp ≤ S1.dp ∧ S.dp * 10 + S.g 0 ≤ S1.dp * 10 + S1.g 0 ∧ Below b w wx)
  case first =>
    go_wp2_with fail
    go_loopw [1] (fun kv wx => ∃ (f q : Nat) (S1 : DS), kv = .int .i64 (q : Int) ∧ 1 ≤ q ∧ q ≤ k ∧ q ≤ f ∧ Hid (shL f S1 q = R) ∧ Hid (DecAt wx b neg S1) ∧ Hid (DOK S1) ∧ Hid ((S1.dp - S.dp) * 60 ≤ 19 * ((k : Int) - q)) ∧ S.dp ≤ S1.dp ∧ S.dp * 10 + S.g 0 ≤ S1.dp * 10 + S1.g 0 ∧ Below b w wx) (fun kv _ => (intOf kv).toNat)
    case atStart => exact ⟨k, k, S, congrArg (Value.int IntKind.i64) (by have := HK.out; omega), by have := HK.out; omega, Nat.le_refl _, Nat.le_refl _, HR.out.symm, H.out, HOK.out, by show _ ≤ _; omega, Int.le_refl _, Int.le_refl _, Below.refl _ _⟩
    case round =>
      obtain ⟨f, q, S1, rfl, hq1, hqk, hqf, hs, hdec, hok, hd1, hd2, hd3, hbel⟩ := hrel
      obtain ⟨f, rfl⟩ : ∃ f', f = f' + 1 := ⟨f - 1, by omega⟩
      by_cases h60 : 60 < q
      · have hlt : decide (60 < (q : Int)) = true := decide_eq_true (by omega)
        have C106 := Lib.hid (left_any b neg S1 60 _ hdec.out hok.out (by decide) (by decide) (by have := hd1.out; omega) (by have := hd1.out; omega) B (HC.out.below hbel hB))
        have e : shL (f + 1) S1 q = shL f (leftS S1 60) (q - 60) := by
          show (if 60 < q then _ else _) = _
          rw [if_pos h60]
        have he := Lib.hid (e.symm.trans hs.out)
        have hd1b := Lib.hid hd1.out
        clear e hs
        obtain ⟨S2, hS2⟩ : ∃ S2, S2 = leftS S1 60 := ⟨_, rfl⟩
        rw [← hS2] at C106 he
        clear hS2
        go_wp2_with (go_at_call 106; refine C106.out.mono ?_; rintro e w9 ⟨⟨rfl, q1, q2, q3, q4, q5⟩, q6⟩)
        go_roundw
        case measure => simp [intOf]; omega
        case rel =>
          refine ⟨f, q - 60, S2, congrArg (Value.int IntKind.i64) (by omega), by omega, by omega, by omega, he.out, q1, q2, ?_, by omega, by omega, hbel.trans q6⟩
          have := hd1b.out
          show _ ≤ _
          omega
      · have hlt : decide (60 < (q : Int)) = false := decide_eq_false (by omega)
        go_wp2_with fail
        go_meet
        have e : shL (f + 1) S1 q = leftS S1 q := by
          show (if 60 < q then _ else _) = _
          rw [if_neg h60]
        exact ⟨q, S1, rfl, hq1, by omega, e.symm.trans hs.out, hdec, hok, hd1, hd2, hd3, hbel⟩
  case rest =>
    obtain ⟨q, S1, rfl, hq1, hq2, hs, hdec, hok, hd1, hd2, hd3, hbel⟩ := hcut
    have C106 := Lib.hid (left_any b neg S1 q _ hdec.out hok.out hq1 hq2 (by omega) (by have := hd1.out; omega) B (HC.out.below hbel hB))
    rw [hs.out] at C106
    go_wp2_with (go_at_call 106; refine C106.out.mono ?_; rintro e w9 ⟨⟨rfl, q1, q2, q3, q4, q5⟩, q6⟩)
    go_end0
    exact ⟨⟨rfl, q1, q2, by have := hd1.out; have := HK.out; omega, by have := hd1.out; have := HK.out; omega, by omega⟩, hbel.trans q6⟩

end Go.Proofs.YtfmkfnochjeleaaGreatDoor
