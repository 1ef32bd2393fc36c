import Derived.Test.YtfmkfnochjeleaaGreatDoorB2
namespace Go.Proofs.YtfmkfnochjeleaaGreatDoor
open Go.RowKit

/-- a token that is no number -/
structure BadText (s : ByteArray) : Prop where
  pos : 0 < s.size
  le : s.size ≤ 2001
  head : (∃ h : 0 < s.size, (nb s[0] == 43) = false ∧ (nb s[0] == 45) = false ∧ (nb s[0] == 46) = false ∧ (nb s[0] == 95) = false ∧ ¬ (48 ≤ nb s[0] ∧ nb s[0] ≤ 57)) ∨
    (s.size = 1 ∧ ∃ h : 0 < s.size, nb s[0] = 45)
def RfBad (w : World) (e : Ending) (w' : World) : Prop :=
  w = w' ∧ ∃ (m x i : Int) (a b c : Bool), e = .returned (.tuple #[.int .u64 m, .int .i64 x, .bool a, .bool b, .bool c, .int .i64 i, .bool false])

set_option maxRecDepth 100000 in
set_option maxHeartbeats 8000000 in
theorem readFloat_bad (s : ByteArray) (w : World) (h : BadText s) : Calls Tryz.prog 49 #[.string s] w (RfBad w) := by
  obtain ⟨hp, hle, hh⟩ := h
  have hne : ¬ s = ByteArray.empty := by intro h; subst h; simp at hp
  rcases hh with ⟨_, b1, b2, b3, b4, b5⟩ | ⟨hs1, _, h45⟩
  · have b6 : (nb s[0] == 48) = false := nb_ne (by omega)
    go_enter Tryz.func49, Tryz.ntmps49
    go_wp2_with fail
    go_step3
    by_cases h3 : 0 + 2 < s.size
    · by_cases h48 : 48 ≤ (s[0].toNat : Int)
      · have h57 : 57 < (s[0].toNat : Int) := by simp only [nb] at b5; omega
        clear b5
        go_wp2_with fail
        go_step3
        go_wp2_with fail
        refine wp_loop_rounds 1 ?_
        rw [rounds_succ]
        go_wp2_with fail
        exact bodyPost_ret (v := .tuple #[.int .u64 0, .int .i64 0, .bool false, .bool false, .bool false, .int .i64 0, .bool false]) (by simp [results, Tryz.f49, go_sem]) rfl ⟨rfl, _, _, _, _, _, _, rfl⟩
      · clear b5
        go_wp2_with fail
        go_step3
        go_wp2_with fail
        refine wp_loop_rounds 1 ?_
        rw [rounds_succ]
        go_wp2_with fail
        exact bodyPost_ret (v := .tuple #[.int .u64 0, .int .i64 0, .bool false, .bool false, .bool false, .int .i64 0, .bool false]) (by simp [results, Tryz.f49, go_sem]) rfl ⟨rfl, _, _, _, _, _, _, rfl⟩
    · by_cases h48 : 48 ≤ (s[0].toNat : Int)
      · have h57 : 57 < (s[0].toNat : Int) := by simp only [nb] at b5; omega
        clear b5
        go_wp2_with fail
        go_step3
        go_wp2_with fail
        refine wp_loop_rounds 1 ?_
        rw [rounds_succ]
        go_wp2_with fail
        exact bodyPost_ret (v := .tuple #[.int .u64 0, .int .i64 0, .bool false, .bool false, .bool false, .int .i64 0, .bool false]) (by simp [results, Tryz.f49, go_sem]) rfl ⟨rfl, _, _, _, _, _, _, rfl⟩
      · clear b5
        go_wp2_with fail
        go_step3
        go_wp2_with fail
        refine wp_loop_rounds 1 ?_
        rw [rounds_succ]
        go_wp2_with fail
        exact bodyPost_ret (v := .tuple #[.int .u64 0, .int .i64 0, .bool false, .bool false, .bool false, .int .i64 0, .bool false]) (by simp [results, Tryz.f49, go_sem]) rfl ⟨rfl, _, _, _, _, _, _, rfl⟩
  · have b2 := nb_eq h45
    have b1 : (nb s[0] == 43) = false := by rw [h45]; rfl
    have h1 : s.size ≤ 1 := by omega
    clear h45
    have HS := Lib.hid hs1
    clear hs1
    go_enter Tryz.func49, Tryz.ntmps49
    go_wp2_with fail
    go_step3
    go_wp2_with fail
    go_step3
    go_wp2_with fail
    refine wp_loop_rounds 1 ?_
    rw [rounds_succ]
    go_wp2_with fail
    exact bodyPost_ret (v := .tuple #[.int .u64 0, .int .i64 0, .bool true, .bool false, .bool false, .int .i64 1, .bool false]) (by simp [results, Tryz.f49, go_sem]) rfl ⟨rfl, _, _, _, _, _, _, rfl⟩
end Go.Proofs.YtfmkfnochjeleaaGreatDoor
