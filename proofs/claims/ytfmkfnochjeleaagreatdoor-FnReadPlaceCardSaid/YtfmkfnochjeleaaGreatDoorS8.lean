import Derived.Test.YtfmkfnochjeleaaGreatDoorS7
namespace Go.Proofs.YtfmkfnochjeleaaGreatDoor
open Go.RowKit

/-- how many digits stand at a place of the text -/
def dgAt (T : ByteArray) (q : Nat) : Nat := digs (T.data.toList.drop q)

theorem chAt_in {T : ByteArray} {q : Nat} (h : q < T.size) : chAt T q = nb T[q] := by
  unfold chAt
  rw [if_pos h, List.getD_eq_getElem?_getD, List.getElem?_eq_getElem (by rw [size_toList]; exact h)]
  rfl
theorem isDigI_nb (c : UInt8) : isDigI (nb c) = dg c := by
  unfold isDigI dg nb
  rw [Bool.eq_iff_iff]
  simp only [Bool.and_eq_true, decide_eq_true_eq]
  omega
theorem dig_lt {T : ByteArray} {q : Nat} (h : isDigI (chAt T q) = true) : q < T.size := by
  refine Nat.lt_of_not_le fun hle => ?_
  rw [chAt_end T q (by omega), dig_end] at h
  cases h
theorem dgAt_zero {T : ByteArray} {q : Nat} (h : isDigI (chAt T q) = false) : dgAt T q = 0 := by
  unfold dgAt
  by_cases hq : q < T.size
  · rw [chAt_in hq, isDigI_nb] at h
    rw [drop_cons_of hq]
    simp only [digs, h]
    rfl
  · rw [drop_all (by omega)]
    rfl
theorem dgAt_succ {T : ByteArray} {q : Nat} (h : isDigI (chAt T q) = true) : dgAt T q = dgAt T (q + 1) + 1 := by
  have hq := dig_lt h
  unfold dgAt
  rw [chAt_in hq, isDigI_nb] at h
  rw [drop_cons_of hq]
  simp only [digs, h, if_true]
theorem dgAt_run {T : ByteArray} : ∀ (n q : Nat), (∀ j, q ≤ j → j < q + n → isDigI (chAt T j) = true) → isDigI (chAt T (q + n)) = false → dgAt T q = n
  | 0, q, _, h => dgAt_zero h
  | n + 1, q, h, h2 => by
    rw [dgAt_succ (h q (Nat.le_refl _) (by omega)), dgAt_run n (q + 1) (fun j h3 h4 => h j (by omega) (by omega)) (by rw [show q + 1 + n = q + (n + 1) by omega]; exact h2)]
theorem dgAt_end (T : ByteArray) : ∀ (n q : Nat), dgAt T q = n → isDigI (chAt T (q + n)) = false
  | 0, q, h => by
    refine Bool.eq_false_iff.2 fun hd => ?_
    rw [Nat.add_zero] at hd
    rw [dgAt_succ hd] at h; omega
  | n + 1, q, h => by
    cases hd : isDigI (chAt T q)
    · rw [dgAt_zero hd] at h; omega
    · rw [dgAt_succ hd] at h
      have := dgAt_end T n (q + 1) (by omega)
      rw [show q + (n + 1) = q + 1 + n by omega]; exact this

/-- a bit: some -/
def has (n : Nat) : Nat := if 0 < n then 1 else 0
theorem has_pos {n : Nat} (h : 0 < n) : has n = 1 := if_pos h
theorem has_zero {n : Nat} (h : ¬ 0 < n) : has n = 0 := if_neg h

theorem digitsD (T : ByteArray) (B b rb q : Nat) (ts : Option Nat) (K : PS) (l : List UInt8) (iv : Value) (w : World) (h : Look T B b rb q ts K l w) (hE : Env T B b rb K w) (hU : ∀ i, chAt T i ≠ 95) :
    Calls Tryz.prog 98 #[.pointer (some ⟨b, 0, none⟩), .int .i32 (chAt T q), .int .i64 10, iv] w fun e w' => e = .returned (.tuple #[.int .i32 (chAt T (q + dgAt T q)), .int .i64 (has (dgAt T q))]) ∧ Hid (LookPost T B b rb (q + dgAt T q) ts K w w') := by
  refine (digits10 T B b rb q ts K l iv w h hE hU).mono ?_
  rintro e w' ⟨q', rfl, h1, h2, h3, h4⟩
  obtain ⟨n, rfl⟩ : ∃ n, q' = q + n := ⟨q' - q, by omega⟩
  have hn := dgAt_run n q h2 h3
  rw [hn]
  refine ⟨?_, h4⟩
  by_cases h0 : 0 < n
  · rw [has_pos h0, if_pos (by omega)]
  · rw [has_zero h0, if_neg (by omega)]

set_option maxHeartbeats 1000000 in
set_option maxRecDepth 100000 in
theorem digits_none (c : Int) (b : Nat) (base : Nat) (iv : Value) (w : World) (hb : base ≤ 10) (hd : isDigI c = false) (h95 : c ≠ 95) :
    Calls Tryz.prog 98 #[.pointer (some ⟨b, 0, none⟩), .int .i32 c, .int .i64 base, iv] w fun e w' => e = .returned (.tuple #[.int .i32 c, .int .i64 0]) ∧ w = w' := by
  have h95' : (c == 95) = false := by rw [beq_eq_false_iff_ne]; exact h95
  have C67 := dec67 c
  rw [hd] at C67
  have C67' := Lib.hid C67
  have hb2 : decide ((base : Int) ≤ 10) = true := by simp; omega
  clear C67 hd
  go_enter Tryz.func98, Tryz.ntmps98
  go_upto_block 0 with fail
  go_wp2_with fail
  refine wp_loop_rounds 1 ?_
  rw [rounds_succ]
  go_wp2_with (go_at_call 67; refine (C67'.out _).mono ?_; rintro e w' ⟨rfl, rfl⟩)
  go_ret2
  exact ⟨rfl, rfl⟩

theorem SAt.setTag {B b k i : Nat} {w : World} {K : PS} {l : List UInt8} (h : SAt B b K l w) (v : Value) {cs : Array Value} {tag : TypeId} {fz : Nat × Nat} (hk : w.heap[k]? = some (.cells cs tag fz)) (ht : tag ≠ 5) (hb : k ≠ b) : SAt B b K l (w.setCell ⟨k, i, none⟩ v) := by
  obtain ⟨hB, x, lr, h3, hown, hn⟩ := h
  have h1 : (w.setCell ⟨k, i, none⟩ v).heap[b]? = w.heap[b]? := Below.heap_setCell _ _ _ _ (Ne.symm hb)
  refine ⟨hB, x, lr, h3.of_heap h1, hown.kept (Lib.grownBy_setCell w k i v) (Or.inr ?_), hn⟩
  intro e
  rcases hown.2 with ⟨h0, _⟩ | ⟨g, cap, cur, hv, _, hg, _⟩
  · rw [h0] at e; cases e
  · rw [hv] at e
    have e2 : g = k := by simpa [Value.ownBlock] using e
    subst e2
    rw [hk] at hg
    injection hg with hg
    injection hg with _ h2 _
    exact ht h2
theorem Look.setTag {T : ByteArray} {B b rb q : Nat} {ts : Option Nat} {K : PS} {l : List UInt8} {w : World} (h : Look T B b rb q ts K l w) {k i : Nat} (v : Value) {cs : Array Value} {tag : TypeId} {fz : Nat × Nat} (hk : w.heap[k]? = some (.cells cs tag fz)) (ht : tag ≠ 5) (hb : k ≠ b) (hr : k ≠ rb) : Look T B b rb q ts K l (w.setCell ⟨k, i, none⟩ v) := by
  obtain ⟨⟨o, e, p, h1, h2, h3, h4, h5, h6⟩, h7, h8, h9, h10⟩ := h
  exact ⟨⟨o, e, p, h1.setTag v hk ht hb, h2.of_heap (Below.heap_setCell _ _ _ _ (Ne.symm hr)), h3, h4, h5, h6⟩, h7, h8, h9, h10⟩
theorem KeptO.setNew {b rb k j : Nat} {w w1 : World} {v : Value} (h : KeptO b rb w w1) (hk : w.heap.size ≤ k) : KeptO b rb w (w1.setCell ⟨k, j, none⟩ v) := fun i o h1 h2 h3 h4 => by
  have hlt : i < w.heap.size := (Array.getElem?_eq_some_iff.1 h1).1
  rw [Below.heap_setCell _ _ _ _ (show i ≠ k by omega)]
  exact h i o h1 h2 h3 h4

/-- the cell of the invalid digit -/
def InvAt (iv : Nat) (w : World) : Prop := ∃ x : Int, w.heap[iv]? = some (.cells #[.int .i32 x] 21 (0, 0))
theorem InvAt.kept {iv b rb : Nat} {w w' : World} (h : InvAt iv w) (k : KeptO b rb w w') (hb : iv ≠ b) (hr : iv ≠ rb) : InvAt iv w' := by
  obtain ⟨x, h⟩ := h
  exact ⟨x, k _ _ h hb hr (fun c fz e => by injection e with e1 e2; revert e2; decide)⟩

/-- a place reached from the world w0 -/
def Got (T : ByteArray) (B b rb q : Nat) (ts : Option Nat) (K : PS) (w0 w : World) : Prop := ∃ K' l', Look T B b rb q ts K' l' w ∧ Same K K' ∧ Below B w0 w ∧ KeptO b rb w0 w
theorem Got.step {T : ByteArray} {B b rb q : Nat} {ts : Option Nat} {K K1 : PS} {w0 w1 w2 : World} (h : LookPost T B b rb q ts K1 w1 w2) (hs : Same K K1) (hb : Below B w0 w1) (ho : KeptO b rb w0 w1) : Got T B b rb q ts K w0 w2 := by
  obtain ⟨K', l', h1, h2, h3, h4⟩ := h
  exact ⟨K', l', h1, hs.trans h2, hb.trans h3, ho.trans h4⟩
theorem KeptO.of_post {T : ByteArray} {B b rb q : Nat} {ts : Option Nat} {K1 : PS} {w1 w2 : World} (h : LookPost T B b rb q ts K1 w1 w2) : KeptO b rb w1 w2 := by
  obtain ⟨K', l', h1, h2, h3, h4⟩ := h
  exact h4

set_option maxHeartbeats 1000000 in
set_option maxRecDepth 100000 in
theorem digits8 (T : ByteArray) (B b rb q iv : Nat) (ts : Option Nat) (K : PS) (w0 w : World) (h : Got T B b rb q ts K w0 w) (hE : Env T B b rb K w0) (hU : ∀ i, chAt T i ≠ 95) (hi : InvAt iv w) (hi0 : w0.heap.size ≤ iv) (hib : iv ≠ b) (hir : iv ≠ rb) :
    Calls Tryz.prog 98 #[.pointer (some ⟨b, 0, none⟩), .int .i32 (chAt T q), .int .i64 8, .pointer (some ⟨iv, 0, none⟩)] w fun e w' => ∃ d : Nat, e = .returned (.tuple #[.int .i32 (chAt T (q + dgAt T q)), .int .i64 d]) ∧ Hid (d = has (dgAt T q)) ∧ Hid (Got T B b rb (q + dgAt T q) ts K w0 w' ∧ InvAt iv w') := by
  have HH := Lib.hid h
  have HE := Lib.hid hE
  have HU := Lib.hid hU
  have HI := Lib.hid hi
  have hBiv : B ≤ iv := Nat.le_trans hE.env.size hi0
  clear h hE hU hi
  go_enter Tryz.func98, Tryz.ntmps98
  go_upto_block 0 with fail
  go_wp2_with fail
  go_loopg [8, 9] (T.size + 1 - q) (fun gk cv dv wr => ∃ (q' : Nat) (d : Nat), cv = .int .i32 (chAt T q') ∧ dv = .int .i64 d ∧ Hid (d = if q < q' then 1 else 0) ∧ q' ≤ T.size ∧ Hid (gk = T.size + 1 - q') ∧ Hid (q ≤ q' ∧ q' + dgAt T q' = q + dgAt T q ∧ Got T B b rb q' ts K w0 wr ∧ InvAt iv wr))
  case atStart => 
    obtain ⟨K', l', hL, _⟩ := HH.out
    exact ⟨q, 0, rfl, rfl, by show (0 : Nat) = _; rw [if_neg (Nat.lt_irrefl q)], hL.le, rfl, Nat.le_refl _, rfl, HH.out, HI.out⟩
  case round =>
    obtain ⟨q', d, rfl, rfl, hd, hqT, hgk, hr⟩ := hrel
    have hsz := HE.out.txt.size
    have h95 : (chAt T q' == 95) = false := by rw [beq_eq_false_iff_ne]; exact HU.out q'
    have C67 := dec67 (chAt T q')
    cases hdg : isDigI (chAt T q')
    · rw [hdg] at C67
      have C67' := Lib.hid C67
      have HD := Lib.hid hdg
      clear C67 hdg
      go_wp2_with (go_at_call 67; refine (C67'.out _).mono ?_; rintro e w' ⟨rfl, rfl⟩)
      go_ret2
      have e0 := dgAt_zero HD.out
      obtain ⟨r1, r2, r3⟩ := hr.out
      have e1 : q' = q + dgAt T q := by omega
      refine ⟨d, ?_, ?_, by rw [← e1]; exact r3⟩
      · rw [← e1]; rfl
      show d = _
      rw [hd.out]
      by_cases hlt : q < q'
      · rw [if_pos hlt, has_pos (by omega)]
      · rw [if_neg hlt, has_zero (by omega)]
    · rw [hdg] at C67
      have hq2 : q' < T.size := dig_lt hdg
      have es := dgAt_succ hdg
      obtain ⟨hle, hall, ⟨K', l', hL, hS, hB, hO⟩, hI⟩ := hr.out
      have hE' := HE.out.step hS hB
      have hd01 : (d : Int) = 0 ∨ (d : Int) = 1 := by
        rcases Nat.lt_or_ge q q' with hlt | hlt
        · exact .inr (by rw [hd.out, if_pos hlt]; rfl)
        · exact .inl (by rw [hd.out, if_neg (by omega)]; rfl)
      have hor := or_one d hd01
      obtain ⟨k, rfl⟩ : ∃ k, gk = k + 1 := ⟨gk - 1, by have := hgk.out; omega⟩
      have C67' := Lib.hid C67
      obtain ⟨x, hx⟩ := hI
      have c0 : wr.cell? ⟨iv, 0, none⟩ = some (.int .i32 x) := by rw [Lib.cell_of_heap hx]; rfl
      have cf : wr.frozen? ⟨iv, 0, none⟩ = false := Lib.frozen_of_heap hx 0
      have C63a := Lib.hid (next_look T B b rb q' ts K' l' wr hL hE' hq2)
      have hL2 := hL.setTag (k := iv) (i := 0) (.int .i32 (chAt T q')) hx (by decide) hib hir
      have hB2 : Below B w0 (wr.setCell ⟨iv, 0, none⟩ (.int .i32 (chAt T q'))) := hB.setCell (p := ⟨iv, 0, none⟩) hBiv _
      have hO2 : KeptO b rb w0 (wr.setCell ⟨iv, 0, none⟩ (.int .i32 (chAt T q'))) := hO.setNew hi0
      have hI2 : InvAt iv (wr.setCell ⟨iv, 0, none⟩ (.int .i32 (chAt T q'))) := ⟨chAt T q', Lib.heap_setCell_same (i := 0) hx _⟩
      have C63b := Lib.hid (next_look T B b rb q' ts K' l' _ hL2 (HE.out.step hS hB2) hq2)
      have P1 : Hid (∀ w2, LookPost T B b rb (q' + 1) ts K' wr w2 → Got T B b rb (q' + 1) ts K w0 w2 ∧ InvAt iv w2) := fun w2 h2 => ⟨Got.step h2 hS hB hO, InvAt.kept ⟨x, hx⟩ (KeptO.of_post h2) hib hir⟩
      have P2 : Hid (∀ w2, LookPost T B b rb (q' + 1) ts K' (wr.setCell ⟨iv, 0, none⟩ (.int .i32 (chAt T q'))) w2 → Got T B b rb (q' + 1) ts K w0 w2 ∧ InvAt iv w2) := fun w2 h2 => ⟨Got.step h2 hS hB2 hO2, InvAt.kept hI2 (KeptO.of_post h2) hib hir⟩
      have HALL := Lib.hid hall
      have HLE := Lib.hid hle
      have HES := Lib.hid es
      clear C67 hL hS hB hO hE' hall hdg hle hL2 hB2 hO2 hI2 hx es
      cases h56 : decide (56 ≤ chAt T q')
      · go_wp2_with first | (go_at_call 67; refine (C67'.out _).mono ?_; rintro e w' ⟨rfl, rfl⟩) | (go_at_call 63; refine C63a.out.mono ?_; rintro e w2 ⟨rfl, hq3⟩)
        go_roundg k
        case measure => omega
        case rel =>
          refine ⟨q' + 1, 1, rfl, rfl, ?_, hq2, ?_, by have := HLE.out; omega, by have := HALL.out; have := HES.out; omega, P1.out _ hq3.out⟩
          · show (1 : Nat) = _
            rw [if_pos (by have := HLE.out; omega)]
          · have := hgk.out
            show k = _
            omega
      · cases hx0 : (x == 0)
        · go_wp2_with first | (go_at_call 67; refine (C67'.out _).mono ?_; rintro e w' ⟨rfl, rfl⟩) | (go_at_call 63; refine C63a.out.mono ?_; rintro e w2 ⟨rfl, hq3⟩)
          go_roundg k
          case measure => omega
          case rel =>
            refine ⟨q' + 1, 1, rfl, rfl, ?_, hq2, ?_, by have := HLE.out; omega, by have := HALL.out; have := HES.out; omega, P1.out _ hq3.out⟩
            · show (1 : Nat) = _
              rw [if_pos (by have := HLE.out; omega)]
            · have := hgk.out
              show k = _
              omega
        · go_wp2_with first | (go_at_call 67; refine (C67'.out _).mono ?_; rintro e w' ⟨rfl, rfl⟩) | (go_at_call 63; refine C63b.out.mono ?_; rintro e w2 ⟨rfl, hq3⟩)
          go_roundg k
          case measure => omega
          case rel =>
            refine ⟨q' + 1, 1, rfl, rfl, ?_, hq2, ?_, by have := HLE.out; omega, by have := HALL.out; have := HES.out; omega, P2.out _ hq3.out⟩
            · show (1 : Nat) = _
              rw [if_pos (by have := HLE.out; omega)]
            · have := hgk.out
              show k = _
              omega

end Go.Proofs.YtfmkfnochjeleaaGreatDoor
