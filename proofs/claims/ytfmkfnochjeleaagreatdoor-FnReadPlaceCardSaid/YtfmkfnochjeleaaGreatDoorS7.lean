import Derived.Test.YtfmkfnochjeleaaGreatDoorS6
import Derived.Deep.LoopGhost
namespace Go.Proofs.YtfmkfnochjeleaaGreatDoor
open Go.RowKit

theorem dig_end : isDigI (-1) = false := by decide
theorem or_one (x : Int) (h : x = 0 ∨ x = 1) : bits .or .i64 x 1 = 1 := by rcases h with rfl | rfl <;> decide

set_option maxHeartbeats 1000000 in
set_option maxRecDepth 100000 in
theorem digits10 (T : ByteArray) (B b rb q : Nat) (ts : Option Nat) (K : PS) (l : List UInt8) (iv : Value) (w : World) (h : Look T B b rb q ts K l w) (hE : Env T B b rb K w) (hU : ∀ i, chAt T i ≠ 95) :
    Calls Tryz.prog 98 #[.pointer (some ⟨b, 0, none⟩), .int .i32 (chAt T q), .int .i64 10, iv] w fun e w' => ∃ q' : Nat, e = .returned (.tuple #[.int .i32 (chAt T q'), .int .i64 (if q < q' then 1 else 0 : Nat)]) ∧ Hid (q ≤ q' ∧ (∀ j, q ≤ j → j < q' → isDigI (chAt T j) = true) ∧ isDigI (chAt T q') = false ∧ LookPost T B b rb q' ts K w w') := by
  have HL := Lib.hid h
  have HE := Lib.hid hE
  have HU := Lib.hid hU
  clear h hE hU
  go_enter Tryz.func98, Tryz.ntmps98
  go_upto_block 0 with fail
  go_wp2_with fail
  go_loopg [8, 9] (T.size + 1 - q) (fun gk cv dv wr => ∃ (q' : Nat) (d : Int), cv = .int .i32 (chAt T q') ∧ dv = .int .i64 d ∧ Hid (d = if q < q' then 1 else 0) ∧ q' ≤ T.size ∧ Hid (gk = T.size + 1 - q') ∧ Hid (q ≤ q' ∧ (∀ j, q ≤ j → j < q' → isDigI (chAt T j) = true) ∧ LookPost T B b rb q' ts K w wr))
  case atStart => exact ⟨q, 0, rfl, rfl, by show (0 : Int) = _; rw [if_neg (Nat.lt_irrefl q)], HL.out.le, rfl, Nat.le_refl _, fun j h1 h2 => by omega, K, l, HL.out, Same.refl K, Below.refl _ _, KeptO.refl _ _ _⟩
  case round =>
    obtain ⟨q', d, rfl, rfl, hd, hqT, hgk, hr⟩ := hrel
    have hsz := HE.out.txt.size
    have h95 : (chAt T q' == 95) = false := by rw [beq_eq_false_iff_ne]; exact HU.out q'
    have C67 := dec67 (chAt T q')
    cases hdg : isDigI (chAt T q')
    · rw [hdg] at C67
      have C67' := Lib.hid C67
      have HD := Lib.hid hdg
      clear C67 hdg
      go_wp2_with (go_at_call 67; refine (C67'.out _).mono ?_; rintro e w' ⟨rfl, rfl⟩)
      go_ret2
      refine ⟨q', ?_, hr.out.1, hr.out.2.1, HD.out, hr.out.2.2⟩
      have e := hd.out
      rw [e]
      by_cases hlt : q < q'
      · rw [if_pos hlt, if_pos hlt]; rfl
      · rw [if_neg hlt, if_neg hlt]; rfl
    · rw [hdg] at C67
      have hq2 : q' < T.size := by
        refine Nat.lt_of_not_le fun hle => ?_
        rw [chAt_end T q' (by omega), dig_end] at hdg
        cases hdg
      obtain ⟨hle, hall, K', l', hL, hS, hB, hO⟩ := hr.out
      have hE' := HE.out.step hS hB
      have hch : chAt T q' ≤ 57 := by
        unfold isDigI at hdg
        simp only [Bool.and_eq_true, decide_eq_true_eq] at hdg
        exact hdg.2
      have h58 : decide (58 ≤ chAt T q') = false := decide_eq_false (by omega)
      have hd01 : d = 0 ∨ d = 1 := by
        rcases Nat.lt_or_ge q q' with hlt | hlt
        · exact .inr (by rw [hd.out, if_pos hlt])
        · exact .inl (by rw [hd.out, if_neg (by omega)])
      have hor := or_one d hd01
      obtain ⟨k, rfl⟩ : ∃ k, gk = k + 1 := ⟨gk - 1, by have := hgk.out; omega⟩
      have C67' := Lib.hid C67
      have C63' := Lib.hid (next_look T B b rb q' ts K' l' wr hL hE' hq2)
      have HSS := Lib.hid hS
      have HBB := Lib.hid hB
      have HOO := Lib.hid hO
      have HALL := Lib.hid hall
      have HLE := Lib.hid hle
      have HD := Lib.hid hdg
      clear C67 hL hS hB hO hE' hall hdg hch hle
      go_wp2_with first | (go_at_call 67; refine (C67'.out _).mono ?_; rintro e w' ⟨rfl, rfl⟩) | (go_at_call 63; refine C63'.out.mono ?_; rintro e w2 ⟨rfl, hq3⟩)
      go_roundg k
      case measure => omega
      case rel =>
        refine ⟨q' + 1, 1, rfl, rfl, ?_, hq2, ?_, by have := HLE.out; omega, fun j h1 h2 => ?_, hq3.out.trans HSS.out HBB.out HOO.out⟩
        · show (1 : Int) = _
          rw [if_pos (by have := HLE.out; omega)]
        · have := hgk.out
          show k = _
          omega
        · by_cases hj : j = q'
          · subst hj; exact HD.out
          · exact HALL.out j h1 (by omega)

end Go.Proofs.YtfmkfnochjeleaaGreatDoor
