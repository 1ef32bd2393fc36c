import Derived.Test.YtfmkfnochjeleaaGreatDoorP1
namespace Go.Proofs.YtfmkfnochjeleaaGreatDoor
open Go.RowKit

theorem KeptO.alloc (b rb : Nat) (w : World) (o : Obj) : KeptO b rb w (w.alloc o) := fun i x h1 _ _ _ => by
  have hlt : i < w.heap.size := (Array.getElem?_eq_some_iff.1 h1).1
  rw [Below.heap_alloc _ _ _ hlt]; exact h1
theorem RdAt.lt {rb i : Nat} {T : ByteArray} {w : World} (h : RdAt rb T i w) : rb < w.heap.size := by
  obtain ⟨x, hx⟩ := h
  exact (Array.getElem?_eq_some_iff.1 hx).1
theorem Look.alloc {T : ByteArray} {B b rb q : Nat} {ts : Option Nat} {K : PS} {l : List UInt8} {w : World} (h : Look T B b rb q ts K l w) (o : Obj) : Look T B b rb q ts K l (w.alloc o) := by
  obtain ⟨⟨o', e, p, h1, h2, h3, h4, h5, h6⟩, h7, h8, h9, h10⟩ := h
  exact ⟨⟨o', e, p, h1.below ((Below.refl _ _).alloc (Nat.le_refl _) o), h2.of_heap (Below.heap_alloc _ _ _ h2.lt), h3, h4, h5, h6⟩, h7, h8, h9, h10⟩
theorem Look.lt {T : ByteArray} {B b rb q : Nat} {ts : Option Nat} {K : PS} {l : List UInt8} {w : World} (h : Look T B b rb q ts K l w) : b < w.heap.size ∧ rb < w.heap.size := by
  obtain ⟨⟨o', e, p, h1, h2, h3, h4, h5, h6⟩, h7, h8, h9, h10⟩ := h
  exact ⟨h1.lt, h2.lt⟩
theorem Look.modeCell {T : ByteArray} {B b rb q : Nat} {ts : Option Nat} {K : PS} {l : List UInt8} {w : World} (h : Look T B b rb q ts K l w) (hm : K.mode = 28) : w.cell? ⟨b, 1041, none⟩ = some (.int .u64 28) := by
  obtain ⟨o, e, p, hS, _⟩ := h.scn
  rw [hS.cell 1041 (.inr (by decide))]
  show some (Value.int .u64 K.mode) = _
  rw [hm]

/-- a number's scan, reached from the world w0; x: the cell of the invalid digit -/
def NG (T : ByteArray) (B b rb iv : Nat) (ts : Option Nat) (K : PS) (w0 : World) (x : Int) (q : Nat) (w : World) : Prop :=
  Got T B b rb q ts K w0 w ∧ w.heap[iv]? = some (.cells #[.int .i32 x] 21 (0, 0))
structure NEnv (T : ByteArray) (B b rb iv : Nat) (K : PS) (w0 : World) : Prop where
  env : Env T B b rb K w0
  us : ∀ i, chAt T i ≠ 95
  iv0 : w0.heap.size ≤ iv
  ivb : iv ≠ b
  ivr : iv ≠ rb
theorem NG.mode {T : ByteArray} {B b rb iv q : Nat} {ts : Option Nat} {K : PS} {w0 w : World} {x : Int} (h : NG T B b rb iv ts K w0 x q w) (hE : NEnv T B b rb iv K w0) : w.cell? ⟨b, 1041, none⟩ = some (.int .u64 28) := by
  obtain ⟨⟨K', l', hL, hS, _⟩, _⟩ := h
  exact hL.modeCell (hS.mode.trans hE.env.mode)
theorem NG.inv {T : ByteArray} {B b rb iv q : Nat} {ts : Option Nat} {K : PS} {w0 w : World} {x : Int} (h : NG T B b rb iv ts K w0 x q w) : w.cell? ⟨iv, 0, none⟩ = some (.int .i32 x) := by
  rw [Lib.cell_of_heap h.2]; rfl
theorem NG.step {T : ByteArray} {B b rb iv q q' : Nat} {ts : Option Nat} {K : PS} {w0 w w' : World} {x : Int} (h : NG T B b rb iv ts K w0 x q w) (hE : NEnv T B b rb iv K w0) (hp : ∀ K' l', Look T B b rb q ts K' l' w → Same K K' → LookPost T B b rb q' ts K' w w') : NG T B b rb iv ts K w0 x q' w' := by
  obtain ⟨⟨K', l', hL, hS, hB, hO⟩, hi⟩ := h
  have hq := hp K' l' hL hS
  exact ⟨Got.step hq hS hB hO, KeptO.of_post hq _ _ hi hE.ivb hE.ivr (fun c fz e => by injection e with e1 e2; revert e2; decide)⟩
theorem Same.eq {K K1 K2 : PS} (h : Same K K1) (k : Same K K2) : Same K1 K2 := ⟨k.src.trans h.src.symm, k.te.trans h.te.symm, k.ch.trans h.ch.symm, k.ev.trans h.ev.symm, k.ec.trans h.ec.symm, k.mode.trans h.mode.symm, k.ws.trans h.ws.symm, k.idr.trans h.idr.symm, k.pk.trans h.pk.symm⟩

def CellsN (b iv : Nat) (x : Int) (w : World) : Prop := w.cell? ⟨b, 1041, none⟩ = some (.int .u64 28) ∧ w.cell? ⟨iv, 0, none⟩ = some (.int .i32 x)
theorem NG.cells {T : ByteArray} {B b rb iv q : Nat} {ts : Option Nat} {K : PS} {w0 w : World} {x : Int} (h : NG T B b rb iv ts K w0 x q w) (hE : NEnv T B b rb iv K w0) : CellsN b iv x w := ⟨h.mode hE, h.inv⟩

theorem ng63 {T : ByteArray} {B b rb iv q : Nat} {ts : Option Nat} {K : PS} {w0 w : World} {x : Int} (hE : Hid (NEnv T B b rb iv K w0)) (h : Hid (NG T B b rb iv ts K w0 x q w)) (hq : q < T.size) :
    Calls Tryz.prog 63 #[.pointer (some ⟨b, 0, none⟩)] w fun e w' => e = .returned (.int .i32 (chAt T (q + 1))) ∧ w'.cell? ⟨b, 1041, none⟩ = some (.int .u64 28) ∧ w'.cell? ⟨iv, 0, none⟩ = some (.int .i32 x) ∧ Hid (NG T B b rb iv ts K w0 x (q + 1) w') := by
  obtain ⟨⟨K', l', hL, hS, hB, hO⟩, hi⟩ := h.out
  refine (next_look T B b rb q ts K' l' w hL (hE.out.env.step hS hB) hq).mono ?_
  rintro e w' ⟨rfl, hp⟩
  have hg : NG T B b rb iv ts K w0 x (q + 1) w' := ⟨Got.step hp.out hS hB hO, KeptO.of_post hp.out _ _ hi hE.out.ivb hE.out.ivr (fun c fz e => by injection e with e1 e2; revert e2; decide)⟩
  exact ⟨rfl, hg.mode hE.out, hg.inv, hg⟩

theorem ng98 {T : ByteArray} {B b rb iv q : Nat} {ts : Option Nat} {K : PS} {w0 w : World} {x : Int} (ivv : Value) (hE : Hid (NEnv T B b rb iv K w0)) (h : Hid (NG T B b rb iv ts K w0 x q w)) :
    Calls Tryz.prog 98 #[.pointer (some ⟨b, 0, none⟩), .int .i32 (chAt T q), .int .i64 10, ivv] w fun e w' => ∃ d : Int, e = .returned (.tuple #[.int .i32 (chAt T (q + dgAt T q)), .int .i64 d]) ∧ bits .or .i64 1 d = 1 ∧ w'.cell? ⟨b, 1041, none⟩ = some (.int .u64 28) ∧ w'.cell? ⟨iv, 0, none⟩ = some (.int .i32 x) ∧ Hid (NG T B b rb iv ts K w0 x (q + dgAt T q) w') := by
  obtain ⟨⟨K', l', hL, hS, hB, hO⟩, hi⟩ := h.out
  refine (digitsD T B b rb q ts K' l' ivv w hL (hE.out.env.step hS hB) hE.out.us).mono ?_
  rintro e w' ⟨rfl, hp⟩
  have hg : NG T B b rb iv ts K w0 x (q + dgAt T q) w' := ⟨Got.step hp.out hS hB hO, KeptO.of_post hp.out _ _ hi hE.out.ivb hE.out.ivr (fun c fz e => by injection e with e1 e2; revert e2; decide)⟩
  refine ⟨_, rfl, ?_, hg.mode hE.out, hg.inv, hg⟩
  by_cases h0 : 0 < dgAt T q
  · rw [has_pos h0]; decide
  · rw [has_zero h0]; decide
theorem ng98p {T : ByteArray} {B b rb iv q : Nat} {ts : Option Nat} {K : PS} {w0 w : World} {x : Int} (ivv : Value) (hE : Hid (NEnv T B b rb iv K w0)) (h : Hid (NG T B b rb iv ts K w0 x q w)) (h0 : 0 < dgAt T q) :
    Calls Tryz.prog 98 #[.pointer (some ⟨b, 0, none⟩), .int .i32 (chAt T q), .int .i64 10, ivv] w fun e w' => e = .returned (.tuple #[.int .i32 (chAt T (q + dgAt T q)), .int .i64 1]) ∧ w'.cell? ⟨b, 1041, none⟩ = some (.int .u64 28) ∧ w'.cell? ⟨iv, 0, none⟩ = some (.int .i32 x) ∧ Hid (NG T B b rb iv ts K w0 x (q + dgAt T q) w') := by
  obtain ⟨⟨K', l', hL, hS, hB, hO⟩, hi⟩ := h.out
  refine (digitsD T B b rb q ts K' l' ivv w hL (hE.out.env.step hS hB) hE.out.us).mono ?_
  rintro e w' ⟨rfl, hp⟩
  have hg : NG T B b rb iv ts K w0 x (q + dgAt T q) w' := ⟨Got.step hp.out hS hB hO, KeptO.of_post hp.out _ _ hi hE.out.ivb hE.out.ivr (fun c fz e => by injection e with e1 e2; revert e2; decide)⟩
  exact ⟨by rw [has_pos h0]; rfl, hg.mode hE.out, hg.inv, hg⟩
theorem ng98e {T : ByteArray} {B b rb iv q : Nat} {ts : Option Nat} {K : PS} {w0 w : World} {x : Int} (hE : Hid (NEnv T B b rb iv K w0)) (h : Hid (NG T B b rb iv ts K w0 x q w)) :
    Calls Tryz.prog 98 #[.pointer (some ⟨b, 0, none⟩), .int .i32 (chAt T q), .int .i64 8, .pointer (some ⟨iv, 0, none⟩)] w fun e w' => ∃ d x' : Int, e = .returned (.tuple #[.int .i32 (chAt T (q + dgAt T q)), .int .i64 d]) ∧ bits .or .i64 1 d = 1 ∧ w'.cell? ⟨b, 1041, none⟩ = some (.int .u64 28) ∧ w'.cell? ⟨iv, 0, none⟩ = some (.int .i32 x') ∧ Hid (NG T B b rb iv ts K w0 x' (q + dgAt T q) w') := by
  refine (digits8 T B b rb q iv ts K w0 w h.out.1 hE.out.env hE.out.us ⟨x, h.out.2⟩ hE.out.iv0 hE.out.ivb hE.out.ivr).mono ?_
  rintro e w' ⟨d, rfl, hd, hg⟩
  obtain ⟨hg1, x', hx'⟩ := hg.out
  have hg : NG T B b rb iv ts K w0 x' (q + dgAt T q) w' := ⟨hg1, hx'⟩
  refine ⟨d, x', rfl, ?_, hg.mode hE.out, hg.inv, hg⟩
  rw [hd.out]
  by_cases h0 : 0 < dgAt T q
  · rw [has_pos h0]; decide
  · rw [has_zero h0]; decide
theorem ng98n {T : ByteArray} {B b rb iv q : Nat} {ts : Option Nat} {K : PS} {w0 w : World} {x : Int} (ivv : Value) (hE : Hid (NEnv T B b rb iv K w0)) (_h : Hid (NG T B b rb iv ts K w0 x q w)) (hd : isDigI (chAt T q) = false) :
    Calls Tryz.prog 98 #[.pointer (some ⟨b, 0, none⟩), .int .i32 (chAt T q), .int .i64 8, ivv] w fun e w' => e = .returned (.tuple #[.int .i32 (chAt T q), .int .i64 0]) ∧ w = w' :=
  digits_none (chAt T q) b 8 ivv w (by omega) hd (hE.out.us q)

/-- the tests at the end of a mantissa -/
inductive ExpCase (T : ByteArray) (C : Nat → Int) (D : Nat → Nat) (p e : Nat) : Prop
  | plus (h1 : (lwr (C p) == 101) = true) (hp : (lwr (C p) == 112) = false) (h2 : (C (p + 1) == 43) = true) (h4 : 0 < D (p + 1 + 1)) (l1 : p < T.size) (l2 : p + 1 < T.size) (he : Hid (e = p + 1 + 1 + D (p + 1 + 1)))
  | minus (h1 : (lwr (C p) == 101) = true) (hp : (lwr (C p) == 112) = false) (h2 : (C (p + 1) == 43) = false) (h3 : (C (p + 1) == 45) = true) (h4 : 0 < D (p + 1 + 1)) (l1 : p < T.size) (l2 : p + 1 < T.size) (he : Hid (e = p + 1 + 1 + D (p + 1 + 1)))
  | bare (h1 : (lwr (C p) == 101) = true) (hp : (lwr (C p) == 112) = false) (h2 : (C (p + 1) == 43) = false) (h3 : (C (p + 1) == 45) = false) (h4 : 0 < D (p + 1)) (l1 : p < T.size) (he : Hid (e = p + 1 + D (p + 1)))
  | none (h1 : (lwr (C p) == 101) = false) (h2 : (lwr (C p) == 112) = false) (he : Hid (e = p))

theorem ch_lt {T : ByteArray} {q : Nat} (h : chAt T q ≠ -1) : q < T.size := by
  refine Nat.lt_of_not_le fun hle => h ?_
  exact chAt_end T q (by omega)
theorem expCase {T : ByteArray} (hT : Txt T) {p e : Nat} (h : ExpAt T p e) : ExpCase T (chAt T) (dgAt T) p e := by
  obtain ⟨_, k1, k2, _⟩ := lwr_key (chAt T p) (chAt_ok hT p)
  rcases h with ⟨h1, h2⟩ | ⟨h1, rfl⟩
  · have e1 : (lwr (chAt T p) == 101) = true := by rw [k1]; rcases h1 with h | h <;> rw [h] <;> rfl
    have hp : (lwr (chAt T p) == 112) = false := by rw [k2]; rcases h1 with h | h <;> rw [h] <;> rfl
    have l1 : p < T.size := ch_lt (by rcases h1 with h | h <;> rw [h] <;> decide)
    rcases h2 with ⟨hs, h4, h5⟩ | ⟨⟨hs1, hs2⟩, h4, h5⟩
    · have l2 : p + 1 < T.size := ch_lt (by rcases hs with h | h <;> rw [h] <;> decide)
      rcases hs with hs | hs
      · exact .plus e1 hp (by rw [hs]; rfl) h4 l1 l2 h5
      · exact .minus e1 hp (by rw [hs]; rfl) (by rw [hs]; rfl) h4 l1 l2 h5
    · exact .bare e1 hp (by rw [beq_eq_false_iff_ne]; exact hs1) (by rw [beq_eq_false_iff_ne]; exact hs2) h4 l1 h5
  · refine .none ?_ ?_ rfl
    · rw [k1]; rcases h1 with h | h | h | h | h | h | h | h <;> rw [h] <;> rfl
    · rw [k2]; rcases h1 with h | h | h | h | h | h | h | h <;> rw [h] <;> rfl

/-- what scanNumber leaves -/
def NumPost (T : ByteArray) (B b rb e : Nat) (ts : Option Nat) (K : PS) (w : World) (r : Ending) (w' : World) : Prop :=
  ∃ t : Int, r = .returned (.tuple #[.int .i32 t, .int .i32 (chAt T e)]) ∧ Hid ((t = -3 ∨ t = -4) ∧ LookPost T B b rb e ts K w w')
theorem NumPost.mk {T : ByteArray} {B b rb e e' iv : Nat} {ts : Option Nat} {K : PS} {w w' : World} {x t : Int} (he : Hid (e = e')) (ht : t = -3 ∨ t = -4) (h : Hid (NG T B b rb iv ts K w x e' w')) :
    NumPost T B b rb e ts K w (.returned (.tuple #[.int .i32 t, .int .i32 (chAt T e')])) w' := by
  obtain ⟨⟨K', l', h1, h2, h3, h4⟩, _⟩ := h.out
  have := he.out
  subst this
  exact ⟨t, rfl, ht, K', l', h1, h2, h3, h4⟩

set_option maxHeartbeats 4000000 in
set_option maxRecDepth 100000 in
theorem scanNum_dot (T : ByteArray) (B b rb q e : Nat) (ts : Option Nat) (K : PS) (l : List UInt8) (w : World) (h : Look T B b rb (q + 1) ts K l w) (hE : Env T B b rb K w) (hU : ∀ i, chAt T i ≠ 95) (h0 : 0 < dgAt T (q + 1)) (hX : ExpAt T (q + 1 + dgAt T (q + 1)) e) :
    Calls Tryz.prog 68 #[.pointer (some ⟨b, 0, none⟩), .int .i32 (chAt T (q + 1)), .bool true] w (NumPost T B b rb e ts K w) := by
  have HX := expCase hE.txt hX
  obtain ⟨lb, lr⟩ := h.lt
  have hN : Hid (NEnv T B b rb w.heap.size K w) := ⟨hE, hU, Nat.le_refl _, by omega, by omega⟩
  have hg : Hid (NG T B b rb w.heap.size ts K w 0 (q + 1) (w.alloc (.cells #[.int .i32 0] 21))) := ⟨⟨K, l, h.alloc _, Same.refl K, (Below.refl _ _).alloc hE.env.size _, KeptO.alloc _ _ _ _⟩, by show (w.heap.push _)[w.heap.size]? = _; exact Array.getElem?_push_size⟩
  have m0 := hg.out.mode hN.out
  have i0 := hg.out.inv
  have b1 : bits .or .i64 0 1 = 1 := by decide
  have b2 : bits .or .i64 1 1 = 1 := by decide
  have b3 : bits .and .i64 1 1 = 1 := by decide
  have b4 : bits .and .i64 1 2 = 0 := by decide
  have b5 : bits .and .u64 28 16 = 16 := by decide
  clear h hE hU hX
  go_enter Tryz.func68, Tryz.ntmps68
  cases HX
  all_goals
    go_wp2_with first | (go_at_call 63; refine (ng63 hN hg ?_).mono ?_; assumption; rintro e w2 ⟨rfl, hm, hi, hg⟩) | (go_at_call 97; refine (lower97 _ _).mono ?_; rintro e w2 ⟨rfl, rfl⟩) | (go_at_call 98; refine (ng98p _ hN hg ?_).mono ?_; assumption; rintro e w2 ⟨rfl, hm, hi, hg⟩)
    go_ret2
    exact NumPost.mk ‹_› (.inr rfl) hg

/-- the tests at a mantissa -/
inductive MantCase (T : ByteArray) (C : Nat → Int) (D : Nat → Nat) (q p : Nat) : Prop
  | zdot (h1 : (C q == 48) = true) (h2 : isDigI (C (q + 1)) = false) (x1 : (lwr (C (q + 1)) == 120) = false) (x2 : (lwr (C (q + 1)) == 111) = false) (x3 : (lwr (C (q + 1)) == 98) = false) (h3 : (C (q + 1) == 46) = true) (l1 : q < T.size) (l2 : q + 1 < T.size) (hp : p = q + 1 + 1 + D (q + 1 + 1))
  | zno (h1 : (C q == 48) = true) (h2 : isDigI (C (q + 1)) = false) (x1 : (lwr (C (q + 1)) == 120) = false) (x2 : (lwr (C (q + 1)) == 111) = false) (x3 : (lwr (C (q + 1)) == 98) = false) (h3 : (C (q + 1) == 46) = false) (l1 : q < T.size) (hp : p = q + 1)
  | ddot (h1 : (C q == 48) = false) (h2 : 0 < D q) (h3 : (C (q + D q) == 46) = true) (l1 : q + D q < T.size) (hp : p = q + D q + 1 + D (q + D q + 1))
  | dno (h1 : (C q == 48) = false) (h2 : 0 < D q) (h3 : (C (q + D q) == 46) = false) (hp : p = q + D q)

theorem mantCase {T : ByteArray} (hT : Txt T) {q p e : Nat} (hd : isDigI (chAt T q) = true) (hpad : chAt T q = 48 → isDigI (chAt T (q + 1)) = false) (h : MantAt T q p) (hx : ExpAt T p e) : MantCase T (chAt T) (dgAt T) q p := by
  have hq := dig_lt hd
  by_cases h48 : chAt T q = 48
  · have hz := hpad h48
    have h1 : dgAt T q = 1 := by rw [dgAt_succ hd, dgAt_zero hz]
    have t48 : (chAt T q == 48) = true := by rw [h48]; rfl
    obtain ⟨_, _, _, k1, k2, k3⟩ := lwr_key (chAt T (q + 1)) (chAt_ok hT (q + 1))
    unfold MantAt at h
    rw [h1] at h
    rcases h with ⟨h46, _, hp⟩ | ⟨h46, _, hp⟩
    · refine .zdot t48 hz ?_ ?_ ?_ (by rw [h46]; rfl) hq (ch_lt (by rw [h46]; decide)) hp
      · rw [k1, h46]; rfl
      · rw [k2, h46]; rfl
      · rw [k3, h46]; rfl
    · subst hp
      have hc : chAt T (q + 1) = 101 ∨ chAt T (q + 1) = 69 ∨ StopC (chAt T (q + 1)) := by
        rcases hx with ⟨h | h, _⟩ | ⟨h, _⟩
        · exact .inl h
        · exact .inr (.inl h)
        · exact .inr (.inr h)
      refine .zno t48 hz ?_ ?_ ?_ (by rw [beq_eq_false_iff_ne]; exact h46) hq rfl
      · rw [k1]; rcases hc with h | h | h | h | h | h | h | h | h | h <;> rw [h] <;> rfl
      · rw [k2]; rcases hc with h | h | h | h | h | h | h | h | h | h <;> rw [h] <;> rfl
      · rw [k3]; rcases hc with h | h | h | h | h | h | h | h | h | h <;> rw [h] <;> rfl
  · have t48 : (chAt T q == 48) = false := by rw [beq_eq_false_iff_ne]; exact h48
    have hpos : 0 < dgAt T q := by rw [dgAt_succ hd]; omega
    rcases h with ⟨h46, _, hp⟩ | ⟨h46, _, hp⟩
    · exact .ddot t48 hpos (by rw [h46]; rfl) (ch_lt (by rw [h46]; decide)) hp
    · exact .dno t48 hpos (by rw [beq_eq_false_iff_ne]; exact h46) hp

/-- the same over named functions: C reads the text, D counts its digits -/
theorem mg63 {T : ByteArray} {C : Nat → Int} {B b rb iv q : Nat} {ts : Option Nat} {K : PS} {w0 w : World} {x : Int} (hC : Hid (chAt T = C)) (hE : Hid (NEnv T B b rb iv K w0)) (h : Hid (NG T B b rb iv ts K w0 x q w)) (hq : q < T.size) :
    Calls Tryz.prog 63 #[.pointer (some ⟨b, 0, none⟩)] w fun e w' => e = .returned (.int .i32 (C (q + 1))) ∧ w'.cell? ⟨b, 1041, none⟩ = some (.int .u64 28) ∧ w'.cell? ⟨iv, 0, none⟩ = some (.int .i32 x) ∧ Hid (NG T B b rb iv ts K w0 x (q + 1) w') := by
  rw [← hC.out]; exact ng63 hE h hq
theorem mg98 {T : ByteArray} {C : Nat → Int} {D : Nat → Nat} {B b rb iv q : Nat} {ts : Option Nat} {K : PS} {w0 w : World} {x base : Int} (ivv : Value) (hC : Hid (chAt T = C)) (hD : Hid (dgAt T = D)) (hE : Hid (NEnv T B b rb iv K w0)) (h : Hid (NG T B b rb iv ts K w0 x q w)) (hb : base = 10) :
    Calls Tryz.prog 98 #[.pointer (some ⟨b, 0, none⟩), .int .i32 (C q), .int .i64 base, ivv] w fun e w' => ∃ d : Int, e = .returned (.tuple #[.int .i32 (C (q + D q)), .int .i64 d]) ∧ bits .or .i64 1 d = 1 ∧ w'.cell? ⟨b, 1041, none⟩ = some (.int .u64 28) ∧ w'.cell? ⟨iv, 0, none⟩ = some (.int .i32 x) ∧ Hid (NG T B b rb iv ts K w0 x (q + D q) w') := by
  rw [← hC.out, ← hD.out, hb]; exact ng98 ivv hE h
theorem mg98p {T : ByteArray} {C : Nat → Int} {D : Nat → Nat} {B b rb iv q : Nat} {ts : Option Nat} {K : PS} {w0 w : World} {x base : Int} (ivv : Value) (hC : Hid (chAt T = C)) (hD : Hid (dgAt T = D)) (hE : Hid (NEnv T B b rb iv K w0)) (h : Hid (NG T B b rb iv ts K w0 x q w)) (hb : base = 10) (h0 : 0 < D q) :
    Calls Tryz.prog 98 #[.pointer (some ⟨b, 0, none⟩), .int .i32 (C q), .int .i64 base, ivv] w fun e w' => e = .returned (.tuple #[.int .i32 (C (q + D q)), .int .i64 1]) ∧ w'.cell? ⟨b, 1041, none⟩ = some (.int .u64 28) ∧ w'.cell? ⟨iv, 0, none⟩ = some (.int .i32 x) ∧ Hid (NG T B b rb iv ts K w0 x (q + D q) w') := by
  rw [← hD.out] at h0
  rw [← hC.out, ← hD.out, hb]; exact ng98p ivv hE h h0
theorem mg98e {T : ByteArray} {C : Nat → Int} {D : Nat → Nat} {B b rb iv q : Nat} {ts : Option Nat} {K : PS} {w0 w : World} {x base : Int} (hC : Hid (chAt T = C)) (hD : Hid (dgAt T = D)) (hE : Hid (NEnv T B b rb iv K w0)) (h : Hid (NG T B b rb iv ts K w0 x q w)) (hb : base = 8) :
    Calls Tryz.prog 98 #[.pointer (some ⟨b, 0, none⟩), .int .i32 (C q), .int .i64 base, .pointer (some ⟨iv, 0, none⟩)] w fun e w' => ∃ d x' : Int, e = .returned (.tuple #[.int .i32 (C (q + D q)), .int .i64 d]) ∧ bits .or .i64 1 d = 1 ∧ w'.cell? ⟨b, 1041, none⟩ = some (.int .u64 28) ∧ w'.cell? ⟨iv, 0, none⟩ = some (.int .i32 x') ∧ Hid (NG T B b rb iv ts K w0 x' (q + D q) w') := by
  rw [← hC.out, ← hD.out, hb]; exact ng98e hE h
theorem mg98n {T : ByteArray} {C : Nat → Int} {B b rb iv q : Nat} {ts : Option Nat} {K : PS} {w0 w : World} {x base : Int} (ivv : Value) (hC : Hid (chAt T = C)) (hE : Hid (NEnv T B b rb iv K w0)) (h : Hid (NG T B b rb iv ts K w0 x q w)) (hb : base = 8) (hd : isDigI (C q) = false) :
    Calls Tryz.prog 98 #[.pointer (some ⟨b, 0, none⟩), .int .i32 (C q), .int .i64 base, ivv] w fun e w' => e = .returned (.tuple #[.int .i32 (C q), .int .i64 0]) ∧ w = w' := by
  rw [← hC.out] at hd ⊢
  rw [hb]; exact ng98n ivv hE h hd
theorem NumPost.mkC {T : ByteArray} {C : Nat → Int} {B b rb e e' iv : Nat} {ts : Option Nat} {K : PS} {w w' : World} {x t : Int} (hC : Hid (chAt T = C)) (he : Hid (e = e')) (ht : t = -3 ∨ t = -4) (h : Hid (NG T B b rb iv ts K w x e' w')) :
    NumPost T B b rb e ts K w (.returned (.tuple #[.int .i32 t, .int .i32 (C e')])) w' := by
  rw [← hC.out]; exact NumPost.mk he ht h

set_option maxHeartbeats 8000000 in
set_option maxRecDepth 100000 in
theorem scanNum_int (T : ByteArray) (B b rb q p e : Nat) (ts : Option Nat) (K : PS) (l : List UInt8) (w : World) (h : Look T B b rb q ts K l w) (hE : Env T B b rb K w) (hU : ∀ i, chAt T i ≠ 95) (hM : MantCase T (chAt T) (dgAt T) q p) (hX : ExpAt T p e) :
    Calls Tryz.prog 68 #[.pointer (some ⟨b, 0, none⟩), .int .i32 (chAt T q), .bool false] w (NumPost T B b rb e ts K w) := by
  have HX := expCase hE.txt hX
  obtain ⟨lb, lr⟩ := h.lt
  have hN : Hid (NEnv T B b rb w.heap.size K w) := ⟨hE, hU, Nat.le_refl _, by omega, by omega⟩
  have hg : Hid (NG T B b rb w.heap.size ts K w 0 q (w.alloc (.cells #[.int .i32 0] 21))) := ⟨⟨K, l, h.alloc _, Same.refl K, (Below.refl _ _).alloc hE.env.size _, KeptO.alloc _ _ _ _⟩, by show (w.heap.push _)[w.heap.size]? = _; exact Array.getElem?_push_size⟩
  have m0 := hg.out.mode hN.out
  have i0 := hg.out.inv
  have b1 : bits .or .i64 0 1 = 1 := by decide
  have b2 : bits .or .i64 1 1 = 1 := by decide
  have b3 : bits .and .i64 1 1 = 1 := by decide
  have b4 : bits .and .i64 1 2 = 0 := by decide
  have b5 : bits .and .u64 28 16 = 16 := by decide
  have b6 : bits .or .i64 1 0 = 1 := by decide
  obtain ⟨C, hC⟩ : ∃ C, chAt T = C := ⟨_, rfl⟩
  obtain ⟨D, hD⟩ : ∃ D, dgAt T = D := ⟨_, rfl⟩
  clear h hE hU hX
  rw [hC, hD] at HX hM
  rw [hC]
  have HC := Lib.hid hC
  have HD := Lib.hid hD
  clear hC hD
  cases hM <;> subst p <;> cases HX
  all_goals
    go_enter Tryz.func68, Tryz.ntmps68
    go_wp2_with first | (go_at_call 63; refine (mg63 HC hN hg ?_).mono ?_; assumption; rintro e w2 ⟨rfl, hm, hi, hg⟩) | (go_at_call 97; refine (lower97 _ _).mono ?_; rintro e w2 ⟨rfl, rfl⟩) | (go_at_call 98; refine (mg98p _ HC HD hN hg ?_ ?_).mono ?_; rfl; assumption; rintro e w2 ⟨rfl, hm, hi, hg⟩) | (go_at_call 98; refine (mg98n _ HC hN hg ?_ ?_).mono ?_; rfl; assumption; rintro e w2 ⟨rfl, rfl⟩) | (go_at_call 98; refine (mg98e HC HD hN hg ?_).mono ?_; rfl; rintro e w2 ⟨d, x', rfl, hor, hm, hi, hg⟩) | (go_at_call 98; refine (mg98 _ HC HD hN hg ?_).mono ?_; rfl; rintro e w2 ⟨d, rfl, hor, hm, hi, hg⟩)
    go_ret2
    exact NumPost.mkC HC ‹_› (by decide) hg

end Go.Proofs.YtfmkfnochjeleaaGreatDoor
