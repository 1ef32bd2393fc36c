import Derived.Test.YtfmkfnochjeleaaGreatDoorB2
namespace Go.Proofs.YtfmkfnochjeleaaGreatDoor
open Go.RowKit

theorem call58 (n : Int) (w : World) : (callFunc 58 #[.int .u64 n]).run Tryz.prog w = .ok (.value (.float .f64 n.toNat)) w := by kernel_rfl
theorem call14 (n : Nat) (w : World) : (callFunc 14 #[.float .f64 n]).run Tryz.prog w = .ok (.value (.int .u64 n)) w := by kernel_rfl
theorem call76 (n : Int) (w : World) : (callFunc 76 #[.int .u64 n]).run Tryz.prog w = .ok (.value (.float .f64 n.toNat)) w := by kernel_rfl
/-- the words of infinities and of strconv's NaN -/
def InfNan (b : Nat) : Prop := b = 9218868437227405312 ∨ b = 18442240474082181120 ∨ b = 9221120237041090561
def InfPost (w : World) (e : Ending) (w' : World) : Prop := ∃ b, e = .returned (.float .f64 b) ∧ InfNan b ∧ w = w'
set_option maxRecDepth 100000 in
theorem nan_any (w : World) : Calls Tryz.prog 79 #[] w (InfPost w) := by
  have h58 := call58
  go_enter Tryz.func79, Tryz.ntmps79
  go_wp2
  go_ret
  exact ⟨_, rfl, .inr (.inr rfl), rfl⟩

set_option maxRecDepth 100000 in
theorem inf_any (n : Int) (w : World) : Calls Tryz.prog 78 #[.int .i64 n] w (InfPost w) := by
  have h58 := call58
  by_cases hn : 0 ≤ n
  · go_enter Tryz.func78, Tryz.ntmps78
    go_wp2
    go_ret
    exact ⟨_, rfl, .inl rfl, rfl⟩
  · go_enter Tryz.func78, Tryz.ntmps78
    go_wp2
    go_ret
    exact ⟨_, rfl, .inr (.inl rfl), rfl⟩

/-- a letter made small -/
def smal (c : UInt8) : Int := if 65 ≤ nb c ∧ nb c ≤ 90 then nb c + 32 else nb c
def CplPost (s p : ByteArray) (w : World) (e : Ending) (w' : World) : Prop :=
  ∃ n : Nat, n ≤ s.size ∧ n ≤ p.size ∧ (1 ≤ n → ∃ (h : 0 < s.size) (h2 : 0 < p.size), smal s[0] = nb p[0]) ∧ e = .returned (.int .i64 n) ∧ w = w'
set_option maxRecDepth 100000 in
set_option maxHeartbeats 2000000 in
theorem cpl_any (s p : ByteArray) (w : World) (hs : s.size ≤ 2001) (hp : p.size ≤ 2001) : Calls Tryz.prog 77 #[.string s, .string p] w (CplPost s p w) := by
  obtain ⟨N, hN1, hN2, hN3⟩ : ∃ N : Nat, N ≤ s.size ∧ N ≤ p.size ∧ (p.size ≤ s.size ∧ N = p.size ∨ s.size < p.size ∧ N = s.size) := by
    by_cases h : p.size ≤ s.size
    · exact ⟨p.size, h, Nat.le_refl _, .inl ⟨h, rfl⟩⟩
    · exact ⟨s.size, Nat.le_refl _, by omega, .inr ⟨by omega, rfl⟩⟩
  rcases hN3 with ⟨h, rfl⟩ | ⟨h, rfl⟩
  · go_enter Tryz.func77, Tryz.ntmps77
    go_wp2
    go_loop [6, 7] (fun iv _ => ∃ k : Nat, k ≤ p.size ∧ iv = .int .i64 k ∧ Hid (1 ≤ k → ∃ (h : 0 < s.size) (h2 : 0 < p.size), smal s[0] = nb p[0])) (fun iv _ => s.size - (intOf iv).toNat)
    case atStart => exact ⟨0, Nat.zero_le _, rfl, fun h => absurd h (by omega)⟩
    case round =>
      obtain ⟨k, hk, rfl, hf⟩ := hrel
      by_cases hlt : k < p.size
      · have hks : k < s.size := by omega
        have hkp : k < p.size := by omega
        have hb := UInt8.toNat_lt s[k]
        have HEQ : Hid (smal s[k] = nb p[k] → (1 ≤ k + 1 → ∃ (h : 0 < s.size) (h2 : 0 < p.size), smal s[0] = nb p[0])) := fun he _ => by
          by_cases h0 : k = 0
          · subst h0; exact ⟨hks, hkp, he⟩
          · exact hf.out (by omega)
        by_cases hu : 65 ≤ (s[k].toNat : Int) ∧ (s[k].toNat : Int) ≤ 90
        · obtain ⟨u1, u2⟩ := hu
          have hsm : Hid (smal s[k] = (s[k].toNat : Int) + 32) := by show _ = _; unfold smal; rw [if_pos ⟨u1, u2⟩]
          cases hne : ((s[k].toNat : Int) + 32 != (p[k].toNat : Int)) with
          | true =>
            go_wp2
            go_ret
            exact ⟨k, by omega, by omega, hf.out, rfl, rfl⟩
          | false =>
            have HE := Lib.hid (HEQ.out (by rw [hsm.out]; simpa [bne] using hne))
            go_wp2
            go_round
            case rel => exact ⟨k + 1, by omega, by go_num, HE⟩
            case measure => simp [intOf]; omega
        · have hsm : Hid (smal s[k] = (s[k].toNat : Int)) := by show _ = _; unfold smal; rw [if_neg hu]
          cases hne : ((s[k].toNat : Int) != (p[k].toNat : Int)) with
          | true =>
            by_cases u1 : 65 ≤ (s[k].toNat : Int)
            · have u2 : 90 < (s[k].toNat : Int) := by omega
              clear hu
              go_wp2
              go_ret
              exact ⟨k, by omega, by omega, hf.out, rfl, rfl⟩
            · clear hu
              go_wp2
              go_ret
              exact ⟨k, by omega, by omega, hf.out, rfl, rfl⟩
          | false =>
            have HE := Lib.hid (HEQ.out (by rw [hsm.out]; simpa [bne] using hne))
            by_cases u1 : 65 ≤ (s[k].toNat : Int)
            · have u2 : 90 < (s[k].toNat : Int) := by omega
              clear hu
              go_wp2
              go_round
              case rel => exact ⟨k + 1, by omega, by go_num, HE⟩
              case measure => simp [intOf]; omega
            · clear hu
              go_wp2
              go_round
              case rel => exact ⟨k + 1, by omega, by go_num, HE⟩
              case measure => simp [intOf]; omega
      · go_wp2
        go_ret
        have hke : k = p.size := by omega
        exact ⟨k, by omega, by omega, hf.out, ret_i (by omega), rfl⟩
  · go_enter Tryz.func77, Tryz.ntmps77
    go_wp2
    go_loop [6, 7] (fun iv _ => ∃ k : Nat, k ≤ s.size ∧ iv = .int .i64 k ∧ Hid (1 ≤ k → ∃ (h : 0 < s.size) (h2 : 0 < p.size), smal s[0] = nb p[0])) (fun iv _ => s.size - (intOf iv).toNat)
    case atStart => exact ⟨0, Nat.zero_le _, rfl, fun h => absurd h (by omega)⟩
    case round =>
      obtain ⟨k, hk, rfl, hf⟩ := hrel
      by_cases hlt : k < s.size
      · have hks : k < s.size := by omega
        have hkp : k < p.size := by omega
        have hb := UInt8.toNat_lt s[k]
        have HEQ : Hid (smal s[k] = nb p[k] → (1 ≤ k + 1 → ∃ (h : 0 < s.size) (h2 : 0 < p.size), smal s[0] = nb p[0])) := fun he _ => by
          by_cases h0 : k = 0
          · subst h0; exact ⟨hks, hkp, he⟩
          · exact hf.out (by omega)
        by_cases hu : 65 ≤ (s[k].toNat : Int) ∧ (s[k].toNat : Int) ≤ 90
        · obtain ⟨u1, u2⟩ := hu
          have hsm : Hid (smal s[k] = (s[k].toNat : Int) + 32) := by show _ = _; unfold smal; rw [if_pos ⟨u1, u2⟩]
          cases hne : ((s[k].toNat : Int) + 32 != (p[k].toNat : Int)) with
          | true =>
            go_wp2
            go_ret
            exact ⟨k, by omega, by omega, hf.out, rfl, rfl⟩
          | false =>
            have HE := Lib.hid (HEQ.out (by rw [hsm.out]; simpa [bne] using hne))
            go_wp2
            go_round
            case rel => exact ⟨k + 1, by omega, by go_num, HE⟩
            case measure => simp [intOf]; omega
        · have hsm : Hid (smal s[k] = (s[k].toNat : Int)) := by show _ = _; unfold smal; rw [if_neg hu]
          cases hne : ((s[k].toNat : Int) != (p[k].toNat : Int)) with
          | true =>
            by_cases u1 : 65 ≤ (s[k].toNat : Int)
            · have u2 : 90 < (s[k].toNat : Int) := by omega
              clear hu
              go_wp2
              go_ret
              exact ⟨k, by omega, by omega, hf.out, rfl, rfl⟩
            · clear hu
              go_wp2
              go_ret
              exact ⟨k, by omega, by omega, hf.out, rfl, rfl⟩
          | false =>
            have HE := Lib.hid (HEQ.out (by rw [hsm.out]; simpa [bne] using hne))
            by_cases u1 : 65 ≤ (s[k].toNat : Int)
            · have u2 : 90 < (s[k].toNat : Int) := by omega
              clear hu
              go_wp2
              go_round
              case rel => exact ⟨k + 1, by omega, by go_num, HE⟩
              case measure => simp [intOf]; omega
            · clear hu
              go_wp2
              go_round
              case rel => exact ⟨k + 1, by omega, by go_num, HE⟩
              case measure => simp [intOf]; omega
      · go_wp2
        go_ret
        have hke : k = s.size := by omega
        exact ⟨k, by omega, by omega, hf.out, ret_i (by omega), rfl⟩

def SpecPost (w : World) (e : Ending) (w' : World) : Prop :=
  w = w' ∧ ∃ (f : Nat) (n : Int) (ok : Bool), e = .returned (.tuple #[.float .f64 f, .int .i64 n, .bool ok]) ∧ (ok = true → InfNan f)
def infinityS : ByteArray := ⟨#[105, 110, 102, 105, 110, 105, 116, 121]⟩
def nanS : ByteArray := ⟨#[110, 97, 110]⟩

set_option maxRecDepth 100000 in
set_option maxHeartbeats 4000000 in
theorem special_any (s : ByteArray) (w : World) (hs : s.size ≤ 2001) : Calls Tryz.prog 48 #[.string s] w (SpecPost w) := by
  by_cases h0 : 0 < s.size
  · have hne : ¬ s = ByteArray.empty := by intro h; subst h; simp at h0
    have H1 : Hid (∀ w p, p.size ≤ 2001 → Calls Tryz.prog 77 #[.string s, .string p] w (CplPost s p w)) := fun w p hp => cpl_any s p w hs hp
    have H2 : Hid (∀ w p, p.size ≤ 2001 → Calls Tryz.prog 77 #[.string (s.extract 1 s.size), .string p] w (CplPost (s.extract 1 s.size) p w)) := fun w p hp => cpl_any _ p w (by simp; omega) hp
    go_enter Tryz.func48, Tryz.ntmps48
    cases b1 : (nb s[0] == 43) with
    | true =>
      go_wp2_with first | (go_at_call 77; refine (H2.out _ _ (by decide)).mono ?_; rintro e w' ⟨n, hn1, hn2, hn3, rfl, rfl⟩; clear hn3) | (go_at_call 78; refine (inf_any _ _).mono ?_; rintro e w' ⟨b, rfl, hb, rfl⟩) | (go_at_call 79; refine (nan_any _).mono ?_; rintro e w' ⟨b, rfl, hb, rfl⟩)
      all_goals first
        | (go_ret3; exact ⟨rfl, _, _, _, rfl, fun _ => by assumption⟩)
        | (go_ret3; exact ⟨rfl, _, _, _, rfl, fun h => by cases h⟩)
    | false =>
      cases b2 : (nb s[0] == 45) with
      | true =>
        go_wp2_with first | (go_at_call 77; refine (H2.out _ _ (by decide)).mono ?_; rintro e w' ⟨n, hn1, hn2, hn3, rfl, rfl⟩; clear hn3) | (go_at_call 78; refine (inf_any _ _).mono ?_; rintro e w' ⟨b, rfl, hb, rfl⟩) | (go_at_call 79; refine (nan_any _).mono ?_; rintro e w' ⟨b, rfl, hb, rfl⟩)
        all_goals first
          | (go_ret3; exact ⟨rfl, _, _, _, rfl, fun _ => by assumption⟩)
          | (go_ret3; exact ⟨rfl, _, _, _, rfl, fun h => by cases h⟩)
      | false =>
        cases b3 : (nb s[0] == 105) with
        | true =>
          go_wp2_with first | (go_at_call 77; refine (H1.out _ _ (by decide)).mono ?_; rintro e w' ⟨n, hn1, hn2, hn3, rfl, rfl⟩; clear hn3) | (go_at_call 78; refine (inf_any _ _).mono ?_; rintro e w' ⟨b, rfl, hb, rfl⟩) | (go_at_call 79; refine (nan_any _).mono ?_; rintro e w' ⟨b, rfl, hb, rfl⟩)
          all_goals first
            | (go_ret3; exact ⟨rfl, _, _, _, rfl, fun _ => by assumption⟩)
            | (go_ret3; exact ⟨rfl, _, _, _, rfl, fun h => by cases h⟩)
        | false =>
          cases b4 : (nb s[0] == 73) with
          | true =>
            go_wp2_with first | (go_at_call 77; refine (H1.out _ _ (by decide)).mono ?_; rintro e w' ⟨n, hn1, hn2, hn3, rfl, rfl⟩; clear hn3) | (go_at_call 78; refine (inf_any _ _).mono ?_; rintro e w' ⟨b, rfl, hb, rfl⟩) | (go_at_call 79; refine (nan_any _).mono ?_; rintro e w' ⟨b, rfl, hb, rfl⟩)
            all_goals first
              | (go_ret3; exact ⟨rfl, _, _, _, rfl, fun _ => by assumption⟩)
              | (go_ret3; exact ⟨rfl, _, _, _, rfl, fun h => by cases h⟩)
          | false =>
            cases b5 : (nb s[0] == 110) with
            | true =>
              go_wp2_with first | (go_at_call 77; refine (H1.out _ _ (by decide)).mono ?_; rintro e w' ⟨n, hn1, hn2, hn3, rfl, rfl⟩; clear hn3) | (go_at_call 78; refine (inf_any _ _).mono ?_; rintro e w' ⟨b, rfl, hb, rfl⟩) | (go_at_call 79; refine (nan_any _).mono ?_; rintro e w' ⟨b, rfl, hb, rfl⟩)
              all_goals first
                | (go_ret3; exact ⟨rfl, _, _, _, rfl, fun _ => by assumption⟩)
                | (go_ret3; exact ⟨rfl, _, _, _, rfl, fun h => by cases h⟩)
            | false =>
              cases b6 : (nb s[0] == 78) with
              | true =>
                go_wp2_with first | (go_at_call 77; refine (H1.out _ _ (by decide)).mono ?_; rintro e w' ⟨n, hn1, hn2, hn3, rfl, rfl⟩; clear hn3) | (go_at_call 78; refine (inf_any _ _).mono ?_; rintro e w' ⟨b, rfl, hb, rfl⟩) | (go_at_call 79; refine (nan_any _).mono ?_; rintro e w' ⟨b, rfl, hb, rfl⟩)
                all_goals first
                  | (go_ret3; exact ⟨rfl, _, _, _, rfl, fun _ => by assumption⟩)
                  | (go_ret3; exact ⟨rfl, _, _, _, rfl, fun h => by cases h⟩)
              | false =>
                go_wp2_with first | (go_at_call 77; refine (H1.out _ _ (by decide)).mono ?_; rintro e w' ⟨n, hn1, hn2, hn3, rfl, rfl⟩; clear hn3) | (go_at_call 78; refine (inf_any _ _).mono ?_; rintro e w' ⟨b, rfl, hb, rfl⟩) | (go_at_call 79; refine (nan_any _).mono ?_; rintro e w' ⟨b, rfl, hb, rfl⟩)
                all_goals first
                  | (go_ret3; exact ⟨rfl, _, _, _, rfl, fun _ => by assumption⟩)
                  | (go_ret3; exact ⟨rfl, _, _, _, rfl, fun h => by cases h⟩)
  · have hz : s.size = 0 := Nat.eq_zero_of_not_pos h0
    have hse : s = ByteArray.empty := by
      obtain ⟨⟨l⟩⟩ := s
      cases l with
      | nil => rfl
      | cons c l => simp [ByteArray.size] at hz
    clear hz
    subst hse
    go_enter Tryz.func48, Tryz.ntmps48
    go_wp2_with fail
    go_ret3
    exact ⟨rfl, _, _, _, rfl, fun h => by cases h⟩

/-- of a number's text nothing is special -/
theorem special_num (s : ByteArray) (neg : Bool) (i0 : Nat) (w : World) (h : NumText s neg i0) : Calls Tryz.prog 48 #[.string s] w fun e w' => e = .returned (.tuple #[.float .f64 0, .int .i64 0, .bool false]) ∧ w = w' := by
  obtain ⟨hsz, hdec, hsign⟩ := h
  have hlt : i0 < s.size := by
    have := (shape_of hdec).pos; have h2 := (shape_of hdec).le
    rw [List.length_drop, size_toList] at h2; omega
  obtain ⟨c, r, hcr, hc⟩ := dec_first hdec
  have hget := drop_cons_of hlt
  rw [hcr] at hget
  have hce : c = s[i0] := (List.cons.inj hget).1
  subst hce
  clear hget hcr r hdec
  have hcn : 46 ≤ (s[i0].toNat : Int) ∧ (s[i0].toNat : Int) ≤ 57 := by
    simp only [dg, decide_eq_true_eq, nb] at hc; omega
  clear hc
  have h0 : 0 < s.size := by omega
  have hne : ¬ s = ByteArray.empty := by intro h; subst h; simp at h0
  rcases hsign with ⟨_, rfl⟩ | ⟨_, rfl, hs0, hs45⟩
  · have b1 : (nb s[0] == 43) = false := nb_ne (by simp only [nb]; omega)
    have b2 : (nb s[0] == 45) = false := nb_ne (by simp only [nb]; omega)
    have b3 : (nb s[0] == 105) = false := nb_ne (by simp only [nb]; omega)
    have b4 : (nb s[0] == 73) = false := nb_ne (by simp only [nb]; omega)
    have b5 : (nb s[0] == 110) = false := nb_ne (by simp only [nb]; omega)
    have b6 : (nb s[0] == 78) = false := nb_ne (by simp only [nb]; omega)
    clear hcn
    go_enter Tryz.func48, Tryz.ntmps48
    go_wp2_with fail
    go_ret3
    exact ⟨rfl, rfl⟩
  · have b1 : (nb s[0] == 43) = false := nb_ne (by simp only [nb] at hs45 ⊢; omega)
    have b2 : (nb s[0] == 45) = true := nb_eq hs45
    have hx : (s.extract 1 s.size).data.toList = s[1] :: s.data.toList.drop 2 := by rw [Lib.extract_to_end]; exact drop_cons_of hlt
    have H2 : Hid (∀ n : Nat, (1 ≤ n → ∃ (h : 0 < (s.extract 1 s.size).size) (h2 : 0 < infinityS.size), smal (s.extract 1 s.size)[0] = nb infinityS[0]) → n = 0) := fun n hn => by
      refine Nat.eq_zero_of_not_pos fun hp => ?_
      obtain ⟨g1, g2, g3⟩ := hn hp
      have g4 := drop_cons_of g1
      rw [List.drop_zero, hx] at g4
      have g5 := (List.cons.inj g4).1
      rw [← g5] at g3
      have g6 : nb infinityS[0] = 105 := rfl
      rw [g6] at g3
      unfold smal at g3
      simp only [nb] at g3
      rw [if_neg (by omega)] at g3
      omega
    have cc := cpl_any (s.extract 1 s.size) infinityS w (by simp; omega) (by decide)
    have HC := Lib.hid cc
    clear hcn hx cc
    go_enter Tryz.func48, Tryz.ntmps48
    go_wp2_with fail
    refine HC.out.mono ?_
    rintro e w' ⟨n, hn1, hn2, hn3, rfl, rfl⟩
    obtain rfl := H2.out n hn3
    clear hn3
    go_wp2_with fail
    go_ret3
    exact ⟨rfl, rfl⟩
end Go.Proofs.YtfmkfnochjeleaaGreatDoor
