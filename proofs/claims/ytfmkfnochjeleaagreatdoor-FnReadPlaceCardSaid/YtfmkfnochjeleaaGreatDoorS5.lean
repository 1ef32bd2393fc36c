import Derived.Test.YtfmkfnochjeleaaGreatDoorS4
namespace Go.Proofs.YtfmkfnochjeleaaGreatDoor
open Go.RowKit

/-- the scanner's characters: -1, or ASCII -/
def ChOK (c : Int) : Prop := -1 ≤ c ∧ c ≤ 127
def lwr (c : Int) : Int := bits .or .i32 32 c
def isLetI (c : Int) : Bool := decide (65 ≤ c) && decide (c ≤ 90) || decide (97 ≤ c) && decide (c ≤ 122)
def isDigI (c : Int) : Bool := decide (48 ≤ c) && decide (c ≤ 57)

theorem lwr_key (c : Int) (h : ChOK c) : (decide (97 ≤ lwr c) && decide (lwr c ≤ 122)) = isLetI c ∧ (lwr c == 101) = (c == 101 || c == 69) ∧ (lwr c == 112) = (c == 112 || c == 80) ∧ (lwr c == 120) = (c == 120 || c == 88) ∧ (lwr c == 111) = (c == 111 || c == 79) ∧ (lwr c == 98) = (c == 98 || c == 66) := by
  have key : ∀ n : Fin 129, (decide (97 ≤ lwr ((n.val : Int) - 1)) && decide (lwr ((n.val : Int) - 1) ≤ 122)) = isLetI ((n.val : Int) - 1) ∧ (lwr ((n.val : Int) - 1) == 101) = ((n.val : Int) - 1 == 101 || (n.val : Int) - 1 == 69) ∧ (lwr ((n.val : Int) - 1) == 112) = ((n.val : Int) - 1 == 112 || (n.val : Int) - 1 == 80) ∧ (lwr ((n.val : Int) - 1) == 120) = ((n.val : Int) - 1 == 120 || (n.val : Int) - 1 == 88) ∧ (lwr ((n.val : Int) - 1) == 111) = ((n.val : Int) - 1 == 111 || (n.val : Int) - 1 == 79) ∧ (lwr ((n.val : Int) - 1) == 98) = ((n.val : Int) - 1 == 98 || (n.val : Int) - 1 == 66) := by decide +kernel
  have := key ⟨(c + 1).toNat, by have := h.1; have := h.2; omega⟩
  have e : (((c + 1).toNat : Nat) : Int) - 1 = c := by have := h.1; omega
  simp only [e] at this
  exact this

theorem lower97 (c : Int) (w : World) : Calls Tryz.prog 97 #[.int .i32 c] w fun e w' => e = .returned (.int .i32 (lwr c)) ∧ w = w' := by
  go_enter Tryz.func97, Tryz.ntmps97
  go_wp2_with fail
  go_ret
  exact ⟨rfl, rfl⟩

theorem dec67 (c : Int) (w : World) : Calls Tryz.prog 67 #[.int .i32 c] w fun e w' => e = .returned (.bool (isDigI c)) ∧ w = w' := by
  obtain ⟨r, hr⟩ : ∃ r, r = isDigI c := ⟨_, rfl⟩
  rw [← hr]
  have HR := Lib.hid hr
  clear hr
  go_enter Tryz.func67, Tryz.ntmps67
  cases h1 : decide (48 ≤ c)
  · go_wp2_with fail
    go_ret
    refine ⟨?_, rfl⟩
    rw [HR.out]; unfold isDigI; rw [h1]; rfl
  · go_wp2_with fail
    go_ret
    refine ⟨?_, rfl⟩
    rw [HR.out]; unfold isDigI; rw [h1]; rfl

set_option maxRecDepth 100000 in
theorem neq_nilFunc (w : World) : (binOp .neq 69 .nilFunc .nilFunc).run Tryz.prog w = .ok (.bool false) w := by
  have ht := Tryz.underlying69
  have h : ∀ d : Nat, (Op.equalIn (d + 1) 69 .nilFunc .nilFunc).run Tryz.prog w = .ok true w := fun d => by
    simp [Op.equalIn, run_underlying ht]
  simp only [binOp]
  simp [Op.equal, Op.maxDepth, h 9999]
/-- isIdentRune -/
def idr (c : Int) (i : Nat) : Bool := c == 95 || isLetI c || isDigI c && decide (0 < i)

set_option maxHeartbeats 1000000 in
set_option maxRecDepth 100000 in
theorem id65 (b : Nat) (c : Int) (i : Nat) (w : World) (h : ChOK c) (hf : w.cell? ⟨b, 1043, none⟩ = some .nilFunc) :
    Calls Tryz.prog 65 #[.pointer (some ⟨b, 0, none⟩), .int .i32 c, .int .i64 i] w fun e w' => e = .returned (.bool (idr c i)) ∧ w = w' := by
  obtain ⟨k1, -⟩ := lwr_key c h
  obtain ⟨L, hL⟩ : ∃ L, L = lwr c := ⟨_, rfl⟩
  have C97 : Hid (∀ w, Calls Tryz.prog 97 #[.int .i32 c] w fun e w' => e = .returned (.int .i32 L) ∧ w = w') := fun w => by rw [hL]; exact lower97 c w
  have C67 := Lib.hid (fun w => dec67 c w)
  rw [← hL] at k1
  obtain ⟨r, hr⟩ : ∃ r, r = idr c i := ⟨_, rfl⟩
  rw [← hr]
  have HR : Hid (r = (c == 95 || (decide (97 ≤ L) && decide (L ≤ 122)) || isDigI c && decide (0 < i))) := by show r = _; rw [hr, k1]; rfl
  obtain ⟨d, hd⟩ : ∃ d, d = isDigI c := ⟨_, rfl⟩
  rw [← hd] at HR C67
  clear hr hL k1 hd h
  have HI := Lib.hid (show decide (0 < (i : Int)) = decide (0 < i) by simp only [decide_eq_decide]; omega)
  have hnf := neq_nilFunc
  go_enter Tryz.func65, Tryz.ntmps65
  cases h1 : (c == 95) <;> cases h2 : decide (97 ≤ L) <;> cases h3 : decide (L ≤ 122) <;> cases h4 : decide (0 < (i : Int)) <;> cases d
  all_goals
    go_wp2_with first | (go_at_call 97; refine (C97.out _).mono ?_; rintro e w' ⟨rfl, rfl⟩) | (go_at_call 67; refine (C67.out _).mono ?_; rintro e w' ⟨rfl, rfl⟩)
    go_ret
    refine ⟨?_, rfl⟩
    rw [HR.out, h1, h2, h3, ← HI.out, h4]
    rfl

theorem chAt_ok {T : ByteArray} (h : Txt T) (i : Nat) : ChOK (chAt T i) := by
  unfold chAt ChOK
  split
  · rename_i hi
    have := h.at i hi
    omega
  · omega

/-- identifiers: how far the letters reach -/
def idEnd (T : ByteArray) : Nat → Nat → Nat
  | 0, i => i
  | f + 1, i => if idr (chAt T i) 1 then idEnd T f (i + 1) else i

end Go.Proofs.YtfmkfnochjeleaaGreatDoor
