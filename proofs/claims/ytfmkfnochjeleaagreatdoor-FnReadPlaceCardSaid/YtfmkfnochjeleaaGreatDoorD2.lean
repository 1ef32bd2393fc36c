import Derived.Test.YtfmkfnochjeleaaGreatDoorD1
namespace Go.Proofs.YtfmkfnochjeleaaGreatDoor
open Go.RowKit

/-- shouldRoundUp -/
def sru (S : DS) (k : Int) : Bool :=
  if k < 0 ∨ (S.nd : Int) ≤ k then false else
  if S.g k.toNat = 53 ∧ k + 1 = S.nd then (if S.tr then true else decide (0 < k) && decide (S.g (k - 1).toNat % 2 = 1))
  else decide (53 ≤ S.g k.toNat)

set_option maxHeartbeats 1000000 in
set_option maxRecDepth 100000 in
theorem sru_any (b : Nat) (neg : Bool) (S : DS) (k : Int) (w : World) (h : DecAt w b neg S) (hn : S.nd ≤ 800) (hg : ∀ i, i < S.nd → 48 ≤ S.g i ∧ S.g i ≤ 57) (hk : -200000 ≤ k) (hk2 : k ≤ 200000) :
    Calls Tryz.prog 108 #[.pointer (some ⟨b, 0, none⟩), .int .i64 k] w fun e w' => e = .returned (.bool (sru S k)) ∧ w = w' := by
  have H := Lib.hid h
  have HG := Lib.hid hg
  have c0 := h.nd
  have c1 := h.tr
  clear h hg
  obtain ⟨R, hR⟩ : ∃ R, R = sru S k := ⟨_, rfl⟩
  have HR := Lib.hid hR
  rw [← hR]
  clear hR
  go_enter Tryz.func108, Tryz.ntmps108
  by_cases h1 : k < 0
  · have d1 : decide (k < 0) = true := decide_eq_true h1
    go_wp2_with fail
    go_ret
    have e : R = false := by rw [HR.out]; unfold sru; rw [if_pos (.inl (by omega))]
    rw [e]
    exact ⟨rfl, rfl⟩
  · by_cases h2 : (S.nd : Int) ≤ k
    · have e : R = false := by rw [HR.out]; unfold sru; rw [if_pos (.inr (by omega))]
      subst e
      go_wp2_with fail
      go_ret
      exact ⟨rfl, rfl⟩
    · obtain ⟨j, rfl⟩ : ∃ j : Nat, k = j := ⟨k.toNat, by omega⟩
      have c2 := H.out.d j (by omega)
      have c3 := H.out.d (j - 1) (by omega)
      have g3 : Hid (0 < j → 48 ≤ S.g (j - 1) ∧ S.g (j - 1) ≤ 57) := fun _ => HG.out (j - 1) (by omega)
      have g2 := HG.out j (by omega)
      have hj : j < S.nd := by omega
      have e0 : Hid (R = if S.g j = 53 ∧ (j : Int) + 1 = S.nd then (if S.tr then true else decide (0 < (j : Int)) && decide (S.g (j - 1) % 2 = 1)) else decide (53 ≤ S.g j)) := by
        show _ = _
        rw [HR.out]; unfold sru; rw [if_neg (by omega), Int.toNat_natCast, show ((j : Int) - 1).toNat = j - 1 by omega]
      by_cases q1 : S.g j = 53
      · have p1 : ((S.g j : Int) == 53) = true := by simp only [beq_iff_eq]; omega
        have Q1 := Lib.hid q1
        clear q1
        by_cases q2 : (j : Int) + 1 = S.nd
        · have p2 : ((j : Int) + 1 == (S.nd : Int)) = true := by simp only [beq_iff_eq]; omega
          have Q2 := Lib.hid q2
          clear q2
          cases q3 : S.tr
          · by_cases q4 : 0 < j
            · have e : R = decide (S.g (j - 1) % 2 = 1) := by rw [e0.out, if_pos ⟨Q1.out, Q2.out⟩, q3, decide_eq_true (show 0 < (j : Int) by omega)]; rfl
              have g4 := g3.out q4
              clear e0 HR
              have e5 : (((S.g (j - 1) : Int) - 48) % 2 != 0) = decide (S.g (j - 1) % 2 = 1) := by
                by_cases h : S.g (j - 1) % 2 = 1
                · rw [decide_eq_true h, bne_iff_ne]; omega
                · rw [decide_eq_false h, bne_eq_false_iff_eq]; omega
              have E5 := Lib.hid e5
              clear e5
              go_wp2_with fail
              go_ret
              exact ⟨congrArg Ending.returned (congrArg Value.bool E5.out), rfl⟩
            · have e : R = false := by rw [e0.out, if_pos ⟨Q1.out, Q2.out⟩, q3, decide_eq_false (show ¬ 0 < (j : Int) by omega)]; rfl
              subst e
              go_wp2_with fail
              go_ret
              exact ⟨rfl, rfl⟩
          · have e : R = true := by rw [e0.out, if_pos ⟨Q1.out, Q2.out⟩, q3]; rfl
            subst e
            go_wp2_with fail
            go_ret
            exact ⟨rfl, rfl⟩
        · have p2 : ((j : Int) + 1 == (S.nd : Int)) = false := by simp only [beq_eq_false_iff_ne, ne_eq]; omega
          have e : R = decide (53 ≤ S.g j) := by rw [e0.out, if_neg (fun h => q2 h.2)]
          clear q2
          have e6 : decide (53 ≤ (S.g j : Int)) = decide (53 ≤ S.g j) := by simp only [decide_eq_decide]; omega
          have E6 := Lib.hid e6
          clear e6 e0 HR
          go_wp2_with fail
          go_ret
          first
            | exact ⟨rfl, rfl⟩
            | exact ⟨congrArg Ending.returned (congrArg Value.bool E6.out), rfl⟩
      · have p1 : ((S.g j : Int) == 53) = false := by simp only [beq_eq_false_iff_ne, ne_eq]; omega
        have e : R = decide (53 ≤ S.g j) := by rw [e0.out, if_neg (fun h => q1 h.1)]
        clear q1
        have e6 : decide (53 ≤ (S.g j : Int)) = decide (53 ≤ S.g j) := by simp only [decide_eq_decide]; omega
        have E6 := Lib.hid e6
        clear e6 e0 HR
        go_wp2_with fail
        go_ret
        first
          | exact ⟨rfl, rfl⟩
          | exact ⟨congrArg Ending.returned (congrArg Value.bool E6.out), rfl⟩

/-- the number that the first i digits make, as a uint64 -/
def rn (g : Nat → Nat) (nd : Nat) : Nat → Nat
  | 0 => 0
  | i + 1 => (rn g nd i * 10 + (if i < nd then g i - 48 else 0)) % 18446744073709551616
/-- RoundedInteger -/
def rint (S : DS) : Nat := if 20 < S.dp then 18446744073709551615 else (rn S.g S.nd S.dp.toNat + (sru S S.dp).toNat) % 18446744073709551616

theorem rn_lt (g : Nat → Nat) (nd : Nat) : ∀ i, rn g nd i < 18446744073709551616
  | 0 => by unfold rn; omega
  | _ + 1 => Nat.mod_lt _ (by decide)

set_option maxHeartbeats 1000000 in
set_option maxRecDepth 100000 in
theorem rint_any (b : Nat) (neg : Bool) (S : DS) (w : World) (h : DecAt w b neg S) (hn : S.nd ≤ 800) (hg : ∀ i, i < S.nd → 48 ≤ S.g i ∧ S.g i ≤ 57) (hk : -200000 ≤ S.dp) (hk2 : S.dp ≤ 200000) :
    Calls Tryz.prog 91 #[.pointer (some ⟨b, 0, none⟩)] w fun e w' => e = .returned (.int .u64 (rint S)) ∧ w = w' := by
  have H := Lib.hid h
  have HG := Lib.hid hg
  have c0 := h.nd
  have c1 := h.dp
  clear h hg
  obtain ⟨R, hR⟩ : ∃ R : Int, R = rint S := ⟨_, rfl⟩
  have HR := Lib.hid hR
  rw [← hR]
  clear hR
  obtain ⟨D, hD⟩ : ∃ D, D = S.dp := ⟨_, rfl⟩
  have HD := Lib.hid hD
  rw [← hD] at c1 hk hk2
  clear hD
  go_enter Tryz.func91, Tryz.ntmps91
  by_cases h20 : 20 < D
  · have e : Hid (R = 18446744073709551615) := by
      show _ = _
      rw [HR.out]; unfold rint; rw [if_pos (by have := HD.out; omega)]; rfl
    go_wp2_with fail
    go_ret
    exact ⟨congrArg Ending.returned (congrArg (Value.int IntKind.u64) e.out.symm), rfl⟩
  · have hstep : Hid (∀ i : Nat, i < S.nd → 48 ≤ S.g i ∧ S.g i ≤ 57 → IntKind.u64.wrap (IntKind.u64.wrap ((rn S.g S.nd i : Int) * 10) + ((S.g i : Int) - 48)) = (rn S.g S.nd (i + 1) : Int)) := by
      intro i hi hg
      show _ = (((rn S.g S.nd i * 10 + (if i < S.nd then S.g i - 48 else 0)) % 18446744073709551616 : Nat) : Int)
      rw [if_pos hi, IntKind.wrap_u64, IntKind.wrap_u64]
      omega
    have hstep0 : Hid (∀ i : Nat, S.nd ≤ i → IntKind.u64.wrap ((rn S.g S.nd i : Int) * 10) = (rn S.g S.nd (i + 1) : Int)) := by
      intro i hi
      show _ = (((rn S.g S.nd i * 10 + (if i < S.nd then S.g i - 48 else 0)) % 18446744073709551616 : Nat) : Int)
      rw [if_neg (by omega), IntKind.wrap_u64]
      omega
    go_upto_block 0 with fail
    go_cut [3, 4] from 10 to 36 (fun iv nv wx => (∃ i : Nat, iv = .int .i64 i ∧ nv = .int .u64 (rn S.g S.nd i) ∧ i ≤ S.nd ∧ (i : Int) ≤ max D 0 ∧ (D ≤ i ∨ i = S.nd)) ∧ wx = w)
    case first =>
      go_wp2_with fail
      go_loop [3, 4] (fun iv nv => ∃ i : Nat, iv = .int .i64 i ∧ nv = .int .u64 (rn S.g S.nd i) ∧ i ≤ S.nd ∧ (i : Int) ≤ max D 0) (fun iv _ => S.nd - (intOf iv).toNat)
      case atStart => exact ⟨0, rfl, rfl, by omega, by omega⟩
      case round =>
        obtain ⟨i, rfl, rfl, hi, hi2⟩ := hrel
        obtain ⟨N, hN⟩ : ∃ N : Int, N = rn S.g S.nd i := ⟨_, rfl⟩
        have HN := Lib.hid hN
        rw [← hN]
        clear hN
        by_cases hlt : (i : Int) < D
        · by_cases hlt2 : i < S.nd
          · have c2 := H.out.d i (by omega)
            obtain ⟨g1, g2⟩ := HG.out i hlt2
            have hlt3 : (i : Int) < (S.nd : Int) := by omega
            go_wp2_with fail
            go_round
            case measure => simp [intOf]; omega
            case rel =>
              refine ⟨i + 1, rfl, ?_, by omega, by omega⟩
              refine congrArg (Value.int IntKind.u64) ?_
              have := hstep.out i hlt2 ⟨g1, g2⟩
              rw [← HN.out] at this
              exact this
          · have hlt3 : decide ((i : Int) < (S.nd : Int)) = false := decide_eq_false (by omega)
            go_wp2_with fail
            go_meet
            exact ⟨⟨i, rfl, congrArg (Value.int IntKind.u64) HN.out, by omega, by omega, .inr (by omega)⟩, rfl⟩
        · have hlt3 : decide ((i : Int) < D) = false := decide_eq_false hlt
          go_wp2_with fail
          go_meet
          exact ⟨⟨i, rfl, congrArg (Value.int IntKind.u64) HN.out, by omega, by omega, .inl (by omega)⟩, rfl⟩
    case rest =>
      obtain ⟨⟨i0, rfl, rfl, hi0, hi1, hi2⟩, hwc⟩ := hcut
      have hwc2 := hwc.symm
      clear hwc
      subst hwc2
      have C108 : Hid (Calls Tryz.prog 108 #[.pointer (some ⟨b, 0, none⟩), .int .i64 D] w fun e w' => e = .returned (.bool (sru S S.dp)) ∧ w = w') := by
        have := HD.out
        rw [this]
        exact sru_any b neg S S.dp w H.out hn HG.out (by omega) (by omega)
      go_wp2_with fail
      go_loop [3, 4] (fun iv nv => ∃ i : Nat, iv = .int .i64 i ∧ nv = .int .u64 (rn S.g S.nd i) ∧ (i : Int) ≤ max D 0 ∧ (D ≤ i ∨ S.nd ≤ i)) (fun iv _ => D.toNat - (intOf iv).toNat)
      case atStart => exact ⟨i0, rfl, rfl, by omega, by omega⟩
      case round =>
        obtain ⟨i, rfl, rfl, hi, hi3⟩ := hrel
        obtain ⟨N, hN⟩ : ∃ N : Int, N = rn S.g S.nd i := ⟨_, rfl⟩
        have HN := Lib.hid hN
        rw [← hN]
        clear hN
        by_cases hlt : (i : Int) < D
        · go_wp2_with fail
          go_round
          case measure => simp [intOf]; omega
          case rel =>
            refine ⟨i + 1, rfl, ?_, by omega, by omega⟩
            refine congrArg (Value.int IntKind.u64) ?_
            have := hstep0.out i (by omega)
            rw [← HN.out] at this
            exact this
        · have hR2 : Hid (R = (((rn S.g S.nd i + (sru S S.dp).toNat) % 18446744073709551616 : Nat) : Int)) := by
            show _ = _
            have h3 := HD.out
            rw [HR.out]
            unfold rint
            rw [if_neg (by omega), show S.dp.toNat = i by omega]
          have hNlt := rn_lt S.g S.nd i
          have HNlt := Lib.hid hNlt
          clear hNlt
          cases hs : sru S S.dp
          · rw [hs] at C108
            have HS := Lib.hid hs
            clear hs
            go_wp2_with (go_at_call 108; refine C108.out.mono ?_; rintro e w' ⟨rfl, rfl⟩)
            go_ret
            refine ⟨congrArg Ending.returned (congrArg (Value.int IntKind.u64) ?_), rfl⟩
            show N = R
            have a := HNlt.out
            rw [hR2.out, HS.out, HN.out]
            simp only [Bool.toNat_false]
            omega
          · rw [hs] at C108
            have HS := Lib.hid hs
            clear hs
            go_wp2_with (go_at_call 108; refine C108.out.mono ?_; rintro e w' ⟨rfl, rfl⟩)
            go_ret
            refine ⟨congrArg Ending.returned (congrArg (Value.int IntKind.u64) ?_), rfl⟩
            show IntKind.u64.wrap (N + 1) = R
            have a := HNlt.out
            rw [hR2.out, HS.out, HN.out, IntKind.wrap_u64]
            simp only [Bool.toNat_true]
            omega

end Go.Proofs.YtfmkfnochjeleaaGreatDoor
