import Derived.Test.YtfmkfnochjeleaaGreatDoorS9
namespace Go.Proofs.YtfmkfnochjeleaaGreatDoor
open Go.RowKit

/-- what a whole token's scan keeps -/
structure SameT (K K' : PS) : Prop where
  src : K'.src = K.src
  ev : K'.ev = K.ev
  mode : K'.mode = K.mode
  ws : K'.ws = K.ws
  idr : K'.idr = K.idr
  pk : K'.pk = K.pk
theorem Same.tok {K K' : PS} (h : Same K K') : SameT K K' := ⟨h.src, h.ev, h.mode, h.ws, h.idr, h.pk⟩
theorem SameT.trans {K K1 K2 : PS} (h : SameT K K1) (k : SameT K1 K2) : SameT K K2 := ⟨k.src.trans h.src, k.ev.trans h.ev, k.mode.trans h.mode, k.ws.trans h.ws, k.idr.trans h.idr, k.pk.trans h.pk⟩
theorem SameT.refl (K : PS) : SameT K K := ⟨rfl, rfl, rfl, rfl, rfl, rfl⟩
theorem Env.stepT {T : ByteArray} {B b rb : Nat} {K K' : PS} {w w' : World} (h : Env T B b rb K w) (hs : SameT K K') (hb : Below B w w') : Env T B b rb K' w' :=
  ⟨h.txt, h.env.below hb (Nat.le_refl _), hs.src.trans h.src, hs.idr.trans h.idr, hs.mode.trans h.mode⟩

theorem TokAt.of_tp {T : ByteArray} {K K' : PS} {l : List UInt8} {o p : Nat} {ts : Option Nat} (h : TokAt T K l o p ts) (h1 : K'.tp = K.tp) : TokAt T K' l o p ts := by
  cases ts with
  | none => exact h1.trans h
  | some t =>
    obtain ⟨q, a, b, c, d⟩ := h
    exact ⟨q, h1.trans a, b, c, d⟩
theorem Win.same {T : ByteArray} {K K' : PS} {o e p : Nat} (h : Win T K o e p) (e1 : K'.off = K.off) (e2 : K'.se = K.se) (e3 : K'.sp = K.sp) (e4 : K'.buf = K.buf) : Win T K' o e p :=
  ⟨e1.trans h.off, e2.trans h.se, e3.trans h.sp, h.pe, h.e1024, h.oe, fun k hk => by rw [e4]; exact h.buf k hk, by rw [e4]; exact h.sent⟩
/-- a cell of the scanner's is turned that its reading does not see -/
theorem Look.upd {T : ByteArray} {B b rb q : Nat} {ts : Option Nat} {K K' : PS} {l : List UInt8} {w : World} (h : Look T B b rb q ts K l w) (i : Nat) (v : Value) (hS : SAt B b K l w → SAt B b K' l (w.setCell ⟨b, i, none⟩ v))
    (e1 : K'.off = K.off) (e2 : K'.se = K.se) (e3 : K'.sp = K.sp) (e4 : K'.buf = K.buf) (e5 : K'.tp = K.tp) (e6 : K'.lcl = K.lcl) : Look T B b rb q ts K' l (w.setCell ⟨b, i, none⟩ v) := by
  obtain ⟨⟨o, e, p, h1, h2, h3, h4, h5, h6⟩, h7, h8, h9, h10⟩ := h
  exact ⟨⟨o, e, p, hS h1, h2.setB (h1.ne h2), h3.same e1 e2 e3 e4, h4, h5.of_tp e5, h6⟩, e6.trans h7, h8, h9, by rw [e6, e3]; exact h10⟩
theorem Look.tpNone {T : ByteArray} {B b rb q : Nat} {ts : Option Nat} {K : PS} {l : List UInt8} {w : World} (h : Look T B b rb q ts K l w) : Look T B b rb q none { K with tp := -1 } l (w.setCell ⟨b, 1036, none⟩ (.int .i64 (-1))) := by
  obtain ⟨⟨o, e, p, h1, h2, h3, h4, h5, h6⟩, h7, h8, h9, h10⟩ := h
  exact ⟨⟨o, e, p, h1.setTp _, h2.setB (h1.ne h2), h3.same rfl rfl rfl rfl, h4, rfl, h6⟩, h7, h8, fun t e => (nomatch e), h10⟩
theorem Look.heap {T : ByteArray} {B b rb q : Nat} {ts : Option Nat} {K : PS} {l : List UInt8} {w w' : World} (h : Look T B b rb q ts K l w) (e : w'.heap = w.heap) : Look T B b rb q ts K l w' := by
  obtain ⟨⟨o, e', p, h1, h2, h3, h4, h5, h6⟩, h7, h8, h9, h10⟩ := h
  exact ⟨⟨o, e', p, h1.of_heap e, h2.of_heap (by rw [e]), h3, h4, h5, h6⟩, h7, h8, h9, h10⟩
/-- where a token begins -/
theorem Look.tpStart {T : ByteArray} {B b rb q : Nat} {K : PS} {w : World} (h : Look T B b rb q none K [] w) : Look T B b rb q (some q) { K with tp := K.sp - K.lcl } [] (w.setCell ⟨b, 1036, none⟩ (.int .i64 (K.sp - K.lcl))) := by
  obtain ⟨⟨o, e, p, h1, h2, h3, h4, h5, h6⟩, h7, h8, h9, h10⟩ := h
  have hp := h3.sp
  refine ⟨⟨o, e, p, h1.setTp _, h2.setB (h1.ne h2), h3.same rfl rfl rfl rfl, h4, ?_, h6⟩, h7, h8, fun t e => by injection e with e; subst e; exact Nat.le_refl _, h10⟩
  by_cases hq : q < T.size
  · rw [if_pos hq] at h4 h7
    have hl : K.lcl = 1 := h7
    refine ⟨p - 1, ?_, by omega, rfl, ?_⟩
    · show K.sp - K.lcl = _
      omega
    · show o + (p - 1) = q + 0
      omega
  · rw [if_neg hq] at h4 h7
    have hl : K.lcl = 0 := h7
    refine ⟨p, ?_, Nat.le_refl _, rfl, ?_⟩
    · show K.sp - K.lcl = _
      omega
    · show o + p = q + 0
      omega
theorem Look.noBuf {T : ByteArray} {B b rb q : Nat} {K : PS} {l : List UInt8} {w w' : World} (h : Look T B b rb q none K l w) (hS : SAt B b K [] w') (hR : ∀ k, k ≠ b → w'.heap[k]? = w.heap[k]?) : Look T B b rb q none K [] w' := by
  obtain ⟨⟨o, e, p, h1, h2, h3, h4, h5, h6⟩, h7, h8, h9, h10⟩ := h
  exact ⟨⟨o, e, p, hS, h2.of_heap (hR rb (h1.ne h2)), h3, h4, h5, Nat.zero_le _⟩, h7, h8, fun t e => (nomatch e), h10⟩
theorem Look.sat {T : ByteArray} {B b rb q : Nat} {ts : Option Nat} {K : PS} {l : List UInt8} {w : World} (h : Look T B b rb q ts K l w) : SAt B b K l w := by
  obtain ⟨o, e, p, h1, _⟩ := h.scn
  exact h1
theorem Look.spB {T : ByteArray} {B b rb q : Nat} {ts : Option Nat} {K : PS} {l : List UInt8} {w : World} (h : Look T B b rb q ts K l w) : 0 ≤ K.sp ∧ K.sp ≤ 1024 ∧ 0 ≤ K.lcl ∧ K.lcl ≤ 1 ∧ K.lcl ≤ K.sp := by
  have hl := h.lcl
  have h10 := h.ls
  obtain ⟨o, e, p, h1, h2, h3, h4, h5, h6⟩ := h.scn
  have := h3.sp
  have := h3.pe
  have := h3.e1024
  split at hl <;> omega
theorem KeptO.of_ne {b rb : Nat} {w w1 w2 : World} (h : KeptO b rb w w1) (k : ∀ k, k ≠ b → w2.heap[k]? = w1.heap[k]?) : KeptO b rb w w2 := fun i o h1 h2 h3 h4 => by rw [k i h2]; exact h i o h1 h2 h3 h4

/-- the scanner between tokens, q bytes being scanned -/
def Rest (T : ByteArray) (B b rb q : Nat) (K : PS) (w : World) : Prop := (∃ ts l, Look T B b rb q ts K l w ∧ K.ch = chAt T q) ∨ (q = 0 ∧ K.ch = -2 ∧ ∃ l, Scn T B b rb 0 none K l w)

def TokPost (T : ByteArray) (B b rb q : Nat) (ts : Option Nat) (K : PS) (w w' : World) : Prop := ∃ K' l', Look T B b rb q ts K' l' w' ∧ SameT K K' ∧ Below B w w' ∧ KeptO b rb w w'

set_option maxHeartbeats 1000000 in
set_option maxRecDepth 100000 in
theorem peek_any (T : ByteArray) (B b rb q : Nat) (K : PS) (w : World) (h : Rest T B b rb q K w) (hE : Env T B b rb K w) :
    Calls Tryz.prog 62 #[.pointer (some ⟨b, 0, none⟩)] w fun e w' => e = .returned (.int .i32 (chAt T q)) ∧ ∃ ts, Hid (TokPost T B b rb q ts K w w') := by
  have hok := chAt_ok hE.txt q
  obtain ⟨c, hc⟩ : ∃ c, c = chAt T q := ⟨_, rfl⟩
  rw [← hc] at hok ⊢
  have h1 : (c == -2) = false := by rw [beq_eq_false_iff_ne]; have := hok.1; omega
  have h2 : (c == 65279) = false := by rw [beq_eq_false_iff_ne]; have := hok.2; omega
  have HC := Lib.hid hc
  rcases h with ⟨ts, l, hL, hch⟩ | ⟨rfl, hch, l, hS⟩
  · have d0 : w.cell? ⟨b, 1038, none⟩ = some (.int .i32 c) := by rw [hL.sat.cell 1038 (.inr (by decide))]; show some (Value.int .i32 K.ch) = _; rw [hch, HC.out]
    have HL := Lib.hid hL
    clear hL hE hok hch hc
    go_enter Tryz.func62, Tryz.ntmps62
    go_wp2_with fail
    go_ret
    exact ⟨rfl, ts, K, l, HL.out, SameT.refl K, Below.refl _ _, KeptO.refl _ _ _⟩
  · have hS0 : SAt B b K l w := by
      obtain ⟨o, e, p, hS0, _⟩ := hS
      exact hS0
    have d0 : w.cell? ⟨b, 1038, none⟩ = some (.int .i32 (-2)) := by rw [hS0.cell 1038 (.inr (by decide))]; show some (Value.int .i32 K.ch) = _; rw [hch]
    have hBb := hS0.le
    have C63 := next_first T B b rb none K l w hS hE
    rw [← hc] at C63
    have C63' : Hid (Calls Tryz.prog 63 #[.pointer (some ⟨b, 0, none⟩)] w fun e w' => e = .returned (.int .i32 c) ∧ (∃ v, w'.cell? ⟨b, 1038, none⟩ = some v) ∧ (∀ i, w'.frozen? ⟨b, i, none⟩ = false) ∧ Hid (LookPost T B b rb 0 none K w w')) := by
      refine C63.mono ?_
      rintro e w2 ⟨rfl, hg⟩
      obtain ⟨K', l', h1, _⟩ := hg.out
      exact ⟨rfl, ⟨_, h1.sat.cell 1038 (.inr (by decide))⟩, h1.sat.fz, hg⟩
    clear hS hS0 hE hok hc C63 hch
    go_enter Tryz.func62, Tryz.ntmps62
    go_wp2_with (go_at_call 63; refine C63'.out.mono ?_; rintro e w2 ⟨rfl, ⟨v1, d1⟩, f1, hg⟩)
    go_ret
    obtain ⟨K', l', h1, h2, h3, h4⟩ := hg.out
    exact ⟨rfl, none, _, l', h1.upd 1038 _ (fun s => s.setCh c) rfl rfl rfl rfl rfl rfl, ⟨h2.src, h2.ev, h2.mode, h2.ws, h2.idr, h2.pk⟩, h3.setCell (p := ⟨b, 1038, none⟩) hBb _, h4.setB⟩

end Go.Proofs.YtfmkfnochjeleaaGreatDoor
