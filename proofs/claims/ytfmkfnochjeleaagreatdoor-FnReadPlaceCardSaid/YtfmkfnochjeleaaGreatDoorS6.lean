import Derived.Test.YtfmkfnochjeleaaGreatDoorS5
namespace Go.Proofs.YtfmkfnochjeleaaGreatDoor
open Go.RowKit

/-- the scanner's state, the byte at q being read ahead -/
structure Look (T : ByteArray) (B b rb q : Nat) (ts : Option Nat) (K : PS) (l : List UInt8) (w : World) : Prop where
  scn : Scn T B b rb (if q < T.size then q + 1 else q) ts K l w
  lcl : K.lcl = if q < T.size then 1 else 0
  le : q ≤ T.size
  tk : ∀ t, ts = some t → t + l.length ≤ q
  ls : K.lcl ≤ K.sp

theorem Same.trans {K K1 K2 : PS} (h : Same K K1) (k : Same K1 K2) : Same K K2 := ⟨k.src.trans h.src, k.te.trans h.te, k.ch.trans h.ch, k.ev.trans h.ev, k.ec.trans h.ec, k.mode.trans h.mode, k.ws.trans h.ws, k.idr.trans h.idr, k.pk.trans h.pk⟩
theorem Same.refl (K : PS) : Same K K := ⟨rfl, rfl, rfl, rfl, rfl, rfl, rfl, rfl, rfl⟩

/-- what stays through a scan -/
structure Env (T : ByteArray) (B b rb : Nat) (K : PS) (w : World) : Prop where
  txt : Txt T
  env : SEnv B b rb w
  src : K.src = .iface 89 (.pointer (some ⟨rb, 0, none⟩))
  idr : K.idr = .nilFunc
  mode : K.mode = 28
theorem Env.step {T : ByteArray} {B b rb : Nat} {K K' : PS} {w w' : World} (h : Env T B b rb K w) (hs : Same K K') (hb : Below B w w') : Env T B b rb K' w' :=
  ⟨h.txt, h.env.below hb (Nat.le_refl _), hs.src.trans h.src, hs.idr.trans h.idr, hs.mode.trans h.mode⟩

/-- what a function that reads on to q leaves -/
def LookPost (T : ByteArray) (B b rb q : Nat) (ts : Option Nat) (K : PS) (w w' : World) : Prop := ∃ K' l', Look T B b rb q ts K' l' w' ∧ Same K K' ∧ Below B w w' ∧ KeptO b rb w w'
theorem LookPost.trans {T : ByteArray} {B b rb q : Nat} {ts : Option Nat} {K K1 : PS} {w w1 w2 : World} (h : LookPost T B b rb q ts K1 w1 w2) (hs : Same K K1) (hb : Below B w w1) (ho : KeptO b rb w w1) : LookPost T B b rb q ts K w w2 := by
  obtain ⟨K', l', h1, h2, h3, h4⟩ := h
  exact ⟨K', l', h1, hs.trans h2, hb.trans h3, ho.trans h4⟩

theorem next_look (T : ByteArray) (B b rb q : Nat) (ts : Option Nat) (K : PS) (l : List UInt8) (w : World) (h : Look T B b rb q ts K l w) (hE : Env T B b rb K w) (hq : q < T.size) :
    Calls Tryz.prog 63 #[.pointer (some ⟨b, 0, none⟩)] w fun e w' => e = .returned (.int .i32 (chAt T (q + 1))) ∧ Hid (LookPost T B b rb (q + 1) ts K w w') := by
  have hs := h.scn
  rw [if_pos hq] at hs
  refine (next_any T B b rb (q + 1) ts K l w hs hE.txt hE.env hE.src).mono ?_
  rintro e w' ⟨rfl, K', l', h1, h2, h3, h4, h5, h6, h7⟩
  exact ⟨rfl, K', l', ⟨h1, h3, hq, h6, h7⟩, h2, h4, h5⟩
theorem next_first (T : ByteArray) (B b rb : Nat) (ts : Option Nat) (K : PS) (l : List UInt8) (w : World) (h : Scn T B b rb 0 ts K l w) (hE : Env T B b rb K w) :
    Calls Tryz.prog 63 #[.pointer (some ⟨b, 0, none⟩)] w fun e w' => e = .returned (.int .i32 (chAt T 0)) ∧ Hid (LookPost T B b rb 0 ts K w w') := by
  refine (next_any T B b rb 0 ts K l w h hE.txt hE.env hE.src).mono ?_
  rintro e w' ⟨rfl, K', l', h1, h2, h3, h4, h5, h6, h7⟩
  exact ⟨rfl, K', l', ⟨h1, h3, Nat.zero_le _, h6, h7⟩, h2, h4, h5⟩

theorem Look.idrCell {T : ByteArray} {B b rb q : Nat} {ts : Option Nat} {K : PS} {l : List UInt8} {w : World} (h : Look T B b rb q ts K l w) (hE : Env T B b rb K w) : w.cell? ⟨b, 1043, none⟩ = some .nilFunc := by
  obtain ⟨o, e, p, hS, _⟩ := h.scn
  rw [hS.cell 1043 (.inr (by decide))]
  show some K.idr = _
  rw [hE.idr]

theorem chAt_end (T : ByteArray) (q : Nat) (h : ¬ q < T.size) : chAt T q = -1 := by unfold chAt; rw [if_neg h]
theorem idr_end (i : Nat) : idr (-1) i = false := by
  have h1 : isLetI (-1) = false := by decide
  have h2 : isDigI (-1) = false := by decide
  unfold idr
  rw [h1, h2]
  rfl

theorem idr_pos (c : Int) (i : Nat) (h : 1 ≤ i) : idr c i = idr c 1 := by
  unfold idr
  rw [decide_eq_true (show 0 < i by omega)]
  rfl

set_option maxHeartbeats 1000000 in
set_option maxRecDepth 100000 in
theorem ident_any (T : ByteArray) (B b rb q : Nat) (ts : Option Nat) (K : PS) (l : List UInt8) (w : World) (h : Look T B b rb q ts K l w) (hE : Env T B b rb K w) (hq : q < T.size) :
    Calls Tryz.prog 66 #[.pointer (some ⟨b, 0, none⟩)] w fun e w' => ∃ q' : Nat, e = .returned (.int .i32 (chAt T q')) ∧ Hid (q < q' ∧ (∀ j, q < j → j < q' → idr (chAt T j) 1 = true) ∧ idr (chAt T q') 1 = false ∧ LookPost T B b rb q' ts K w w') := by
  have C63 := Lib.hid (next_look T B b rb q ts K l w h hE hq)
  have HE := Lib.hid hE
  clear h hE
  go_enter Tryz.func66, Tryz.ntmps66
  go_upto_block 0 with (go_at_call 63; refine C63.out.mono ?_; rintro e w1 ⟨rfl, hq1⟩)
  go_wp2_with fail
  go_loopw [3, 4] (fun cv iv wr => ∃ q' i : Nat, cv = .int .i32 (chAt T q') ∧ iv = .int .i64 i ∧ 1 ≤ i ∧ i ≤ q' ∧ q' ≤ T.size ∧ Hid (q < q' ∧ (∀ j, q < j → j < q' → idr (chAt T j) 1 = true) ∧ LookPost T B b rb q' ts K w wr)) (fun cv iv _ => T.size + 1 - (intOf iv).toNat)
  case atStart => exact ⟨q + 1, 1, rfl, rfl, Nat.le_refl _, by omega, hq, by omega, fun j h1 h2 => by omega, hq1.out⟩
  case round =>
    obtain ⟨q', i, rfl, rfl, hi, hiq, hqT, hr⟩ := hrel
    have hsz := HE.out.txt.size
    obtain ⟨hlt, hall, K', l', hL, hS, hB, hO⟩ := hr.out
    have hE' := HE.out.step hS hB
    have C65 := id65 b (chAt T q') i wr (chAt_ok HE.out.txt q') (hL.idrCell hE')
    rw [idr_pos _ i hi] at C65
    cases hid : idr (chAt T q') 1
    · rw [hid] at C65
      have C65' := Lib.hid C65
      have HD := Lib.hid hid
      clear C65 hL hS hB hO hE' hall hid
      go_wp2_with (go_at_call 65; refine C65'.out.mono ?_; rintro e w' ⟨rfl, rfl⟩)
      go_ret
      exact ⟨q', rfl, hr.out.1, hr.out.2.1, HD.out, hr.out.2.2⟩
    · rw [hid] at C65
      have hq2 : q' < T.size := by
        refine Nat.lt_of_not_le fun hle => ?_
        rw [chAt_end T q' (by omega), idr_end] at hid
        cases hid
      have C65' := Lib.hid C65
      have C63' := Lib.hid (next_look T B b rb q' ts K' l' wr hL hE' hq2)
      have HSS := Lib.hid hS
      have HBB := Lib.hid hB
      have HOO := Lib.hid hO
      have HALL := Lib.hid hall
      have HD := Lib.hid hid
      clear C65 hL hS hB hO hE' hall hid
      go_wp2_with first | (go_at_call 65; refine C65'.out.mono ?_; rintro e w' ⟨rfl, rfl⟩) | (go_at_call 63; refine C63'.out.mono ?_; rintro e w2 ⟨rfl, hq3⟩)
      go_roundw
      case measure => simp [intOf]; omega
      case rel =>
        refine ⟨q' + 1, i + 1, rfl, rfl, by omega, by omega, hq2, by omega, fun j h1 h2 => ?_, hq3.out.trans HSS.out HBB.out HOO.out⟩
        by_cases hj : j = q'
        · subst hj; exact HD.out
        · exact HALL.out j h1 (by omega)

end Go.Proofs.YtfmkfnochjeleaaGreatDoor
