import Derived.Test.YtfmkfnochjeleaaGreatDoorS3
namespace Go.Proofs.YtfmkfnochjeleaaGreatDoor
open Go.RowKit

set_option maxRecDepth 100000 in
theorem neq_same (p o : Nat) (w : World) : (binOp .neq 39 (.iface 137 (.pointer (some ⟨p, o, none⟩))) (.iface 137 (.pointer (some ⟨p, o, none⟩)))).run Tryz.prog w = .ok (.bool false) w := by
  have hc : (Tryz.prog.info? 137).map (·.comparable) = some true := by kernel_rfl
  have ht : ∃ ms, Tryz.prog.underlying 39 = some (.interface ms) := ⟨_, Tryz.underlying39⟩
  have hx : Tryz.prog.underlying 137 = some (.pointer 139) := Tryz.underlying137
  have hz := Tryz.sizeOf139
  obtain ⟨ms, ht⟩ := ht
  cases hi : Tryz.prog.info? 137 with
  | none => simp [hi] at hc
  | some i =>
    have hcc : i.comparable = true := by simpa [hi] using hc
    have h : ∀ d : Nat, (Op.equalIn (d + 2) 39 (.iface 137 (.pointer (some ⟨p, o, none⟩))) (.iface 137 (.pointer (some ⟨p, o, none⟩)))).run Tryz.prog w = .ok true w := fun d => by
      simp [Op.equalIn, run_underlying ht, run_underlying hx, typeInfo, hi, hcc, hz, sameAddr]
    simp only [binOp]
    simp [Op.equal, Op.maxDepth, h 9998]

/-- the byte at a place of the text; -1 behind its end -/
def chAt (T : ByteArray) (i : Nat) : Int := if i < T.size then ((T.data.toList.getD i 0).toNat : Int) else -1

/-- what the parser's text is made of -/
structure Txt (T : ByteArray) : Prop where
  size : T.size ≤ 2000
  cls : ∀ c ∈ T.data.toList, 0 < c.toNat ∧ c.toNat < 128

theorem Txt.at {T : ByteArray} (h : Txt T) (i : Nat) (hi : i < T.size) : 0 < (T.data.toList.getD i 0).toNat ∧ (T.data.toList.getD i 0).toNat < 128 := by
  have hl : i < T.data.toList.length := by rw [size_toList]; exact hi
  rw [List.getD_eq_getElem?_getD, List.getElem?_eq_getElem hl]
  exact h.cls _ (List.getElem_mem _)

/-- the scanner's window: o bytes lie behind it, e in it, p of these are read -/
structure Win (T : ByteArray) (K : PS) (o e p : Nat) : Prop where
  off : K.off = o
  se : K.se = e
  sp : K.sp = p
  pe : p ≤ e
  e1024 : e ≤ 1024
  oe : o + e ≤ T.size
  buf : ∀ k, k < e → K.buf k = (T.data.toList.getD (o + k) 0).toNat
  sent : K.buf e = 128

/-- the token that begins at ts, as far as it is read -/
def TokAt (T : ByteArray) (K : PS) (l : List UInt8) (o p : Nat) : Option Nat → Prop
  | none => K.tp = -1
  | some t => ∃ q : Nat, K.tp = q ∧ q ≤ p ∧ l = (T.data.toList.drop t).take l.length ∧ o + q = t + l.length

def Scn (T : ByteArray) (B b rb pos : Nat) (ts : Option Nat) (K : PS) (l : List UInt8) (w : World) : Prop :=
  ∃ o e p, SAt B b K l w ∧ RdAt rb T (o + e) w ∧ Win T K o e p ∧ pos = o + p ∧ TokAt T K l o p ts ∧ l.length ≤ 2000

/-- what next leaves -/
structure Same (K K' : PS) : Prop where
  src : K'.src = K.src
  te : K'.te = K.te
  ch : K'.ch = K.ch
  ev : K'.ev = K.ev
  ec : K'.ec = K.ec
  mode : K'.mode = K.mode
  ws : K'.ws = K.ws
  idr : K'.idr = K.idr
  pk : K'.pk = K.pk

structure SEnv (B b rb : Nat) (w : World) : Prop where
  size : B ≤ w.heap.size
  rb : B ≤ rb
  first : FirstTab w
  eof : ∃ p o, w.cell? ⟨10, 0, none⟩ = some (.iface 137 (.pointer (some ⟨p, o, none⟩)))
  globs : 18 < B
theorem SEnv.below {B b rb c : Nat} {w w' : World} (h : SEnv B b rb w) (hb : Below c w w') (hc : B ≤ c) : SEnv B b rb w' where
  size := Nat.le_trans h.size hb.size
  rb := h.rb
  first c' hc' := by rw [hb.cell (show (⟨12, c', none⟩ : Addr).block < c by have := h.globs; show 12 < c; omega)]; exact h.first c' hc'
  eof := by
    obtain ⟨p, o, hp⟩ := h.eof
    exact ⟨p, o, by rw [hb.cell (show (⟨10, 0, none⟩ : Addr).block < c by have := h.globs; show 10 < c; omega)]; exact hp⟩
  globs := h.globs

theorem Win.adv {T : ByteArray} {K K' : PS} {o e p : Nat} (h : Win T K o e p) (hp : p < e) (h1 : K'.off = K.off) (h2 : K'.se = K.se) (h3 : K'.buf = K.buf) (h4 : K'.sp = (p : Int) + 1) : Win T K' o e (p + 1) :=
  ⟨h1.trans h.off, h2.trans h.se, h4, hp, h.e1024, h.oe, fun k hk => by rw [h3]; exact h.buf k hk, by rw [h3]; exact h.sent⟩
theorem TokAt.adv {T : ByteArray} {K K' : PS} {l : List UInt8} {o p : Nat} {ts : Option Nat} (h : TokAt T K l o p ts) (h1 : K'.tp = K.tp) : TokAt T K' l o (p + 1) ts := by
  cases ts with
  | none => exact h1.trans h
  | some t =>
    obtain ⟨q, a, b, c, d⟩ := h
    exact ⟨q, h1.trans a, by omega, c, d⟩
theorem TokAt.len {T : ByteArray} {K : PS} {l : List UInt8} {o p : Nat} {ts : Option Nat} (h : TokAt T K l o p ts) : ∀ t, ts = some t → t + l.length ≤ o + p := by
  intro t e
  subst e
  obtain ⟨q, a, b, c, d⟩ := h
  omega
theorem SAt.of_heap {B b : Nat} {K : PS} {l : List UInt8} {w w' : World} (h : SAt B b K l w) (e : w'.heap = w.heap) : SAt B b K l w' := by
  obtain ⟨hB, x, lr, h3, hown, hne⟩ := h
  refine ⟨hB, x, lr, h3.of_heap (by rw [e]), ?_, hne⟩
  rcases hown with ⟨a, c⟩
  refine ⟨a, ?_⟩
  rcases c with hn | ⟨g, cap, cur, hv, hb, hg, rest⟩
  · exact .inl hn
  · exact .inr ⟨g, cap, cur, hv, hb, by rw [e]; exact hg, rest⟩
theorem RdAt.setB {rb b i j : Nat} {T : ByteArray} {w : World} {v : Value} (h : RdAt rb T i w) (hne : rb ≠ b) : RdAt rb T i (w.setCell ⟨b, j, none⟩ v) := h.of_heap (Below.heap_setCell _ _ _ _ hne)

set_option maxHeartbeats 1000000 in
set_option maxRecDepth 100000 in
theorem next_in (T : ByteArray) (B b rb : Nat) (ts : Option Nat) (K : PS) (l : List UInt8) (w : World) (o e p : Nat) (hS : SAt B b K l w) (hR : RdAt rb T (o + e) w) (hW : Win T K o e p) (hT : TokAt T K l o p ts) (hl : l.length ≤ 2000) (htx : Txt T) (hpe : p < e) :
    Calls Tryz.prog 63 #[.pointer (some ⟨b, 0, none⟩)] w fun r w' => ∃ K' l', r = .returned (.int .i32 (chAt T (o + p))) ∧ Scn T B b rb (o + p + 1) ts K' l' w' ∧ Same K K' ∧ K'.lcl = 1 ∧ Below B w w' ∧ KeptO b rb w w' ∧ (∀ t, ts = some t → t + l'.length ≤ o + p) ∧ K'.lcl ≤ K'.sp := by
  have hpos : o + p < T.size := by have := hW.oe; omega
  obtain ⟨hc0, hc1⟩ := htx.at (o + p) hpos
  have hch : chAt T (o + p) = ((T.data.toList.getD (o + p) 0).toNat : Int) := by unfold chAt; rw [if_pos hpos]
  rw [hch]
  obtain ⟨c, hc⟩ : ∃ c, c = (T.data.toList.getD (o + p) 0).toNat := ⟨_, rfl⟩
  rw [← hc] at hc0 hc1 ⊢
  have d0 : w.cell? ⟨b, 1026, none⟩ = some (.int .i64 p) := by rw [hS.cell 1026 (.inl (by decide))]; show some (Value.int .i64 K.sp) = _; rw [hW.sp]
  have d1 : w.cell? ⟨b, 1 + p, none⟩ = some (.int .u8 c) := by rw [hS.buf p (by have := hW.e1024; omega), hW.buf p hpe, hc]
  have d2 : w.cell? ⟨b, 1030, none⟩ = some (.int .i64 K.col) := hS.cell 1030 (.inl (by decide))
  have d3 : w.cell? ⟨b, 1029, none⟩ = some (.int .i64 K.line) := hS.cell 1029 (.inl (by decide))
  have d4 : w.cell? ⟨b, 1031, none⟩ = some (.int .i64 K.lll) := hS.cell 1031 (.inl (by decide))
  have d5 : w.cell? ⟨b, 1032, none⟩ = some (.int .i64 K.lcl) := hS.cell 1032 (.inl (by decide))
  have f0 := hS.fz
  have hp1 : p ≤ 1023 := by have := hW.e1024; omega
  have HS := Lib.hid hS
  have HR := Lib.hid hR
  have HW := Lib.hid hW
  have HT := Lib.hid hT
  clear hS hR hW hT hc hch htx
  have hcz : ((c : Int) == 0) = false := by rw [beq_eq_false_iff_ne]; omega
  go_enter Tryz.func63, Tryz.ntmps63
  go_upto_region 1 with fail
  go_quiet (fail)
  have hS0 := Lib.hid (HS.out.drewN nq)
  have hR0 := Lib.hid (HR.out.of_heap (w' := w.drewN nq) rfl)
  have hB0 := Lib.hid (below_drewN (Below.refl B w) nq)
  have hO0 := Lib.hid ((KeptO.refl b rb w).heap (w2 := w.drewN nq) rfl)
  have hne := hS0.out.ne hR0.out
  have hBb := HS.out.le
  cases hnl : ((c : Int) == 10)
  · go_wp2_with fail
    go_ret
    refine ⟨{ { { K with sp := (p : Int) + 1 } with lcl := 1 } with col := wrap64 (K.col + 1) }, l, rfl, ⟨o, e, p + 1, ((hS0.out.setSp _).setLcl _).setCol _, ((hR0.out.setB hne).setB hne).setB hne, HW.out.adv hpe rfl rfl rfl rfl, by omega, HT.out.adv rfl, hl⟩, ⟨rfl, rfl, rfl, rfl, rfl, rfl, rfl, rfl, rfl⟩, rfl, ?_, hO0.out.setB.setB.setB, HT.out.len, by show (1 : Int) ≤ (p : Int) + 1; omega⟩
    exact ((hB0.out.setCell (p := ⟨b, 1026, none⟩) hBb _).setCell (p := ⟨b, 1032, none⟩) hBb _).setCell (p := ⟨b, 1030, none⟩) hBb _
  · go_wp2_with fail
    go_ret
    refine ⟨_, l, rfl, ⟨o, e, p + 1, (((((hS0.out.setSp _).setLcl _).setCol _).setLine _).setLll _).setCol _, (((((hR0.out.setB hne).setB hne).setB hne).setB hne).setB hne).setB hne, HW.out.adv hpe rfl rfl rfl rfl, by omega, HT.out.adv rfl, hl⟩, ⟨rfl, rfl, rfl, rfl, rfl, rfl, rfl, rfl, rfl⟩, rfl, ?_, hO0.out.setB.setB.setB.setB.setB.setB, HT.out.len, by show (1 : Int) ≤ (p : Int) + 1; omega⟩
    exact (((((hB0.out.setCell (p := ⟨b, 1026, none⟩) hBb _).setCell (p := ⟨b, 1032, none⟩) hBb _).setCell (p := ⟨b, 1030, none⟩) hBb _).setCell (p := ⟨b, 1029, none⟩) hBb _).setCell (p := ⟨b, 1031, none⟩) hBb _).setCell (p := ⟨b, 1030, none⟩) hBb _

theorem scn_some {T : ByteArray} {B b rb q : Nat} {ts : Option Nat} {K : PS} {l : List UInt8} {w : World} (hend : q < T.size) (h : Scn T B b rb (q + 1) ts K l w) : Scn T B b rb (if q < T.size then q + 1 else q) ts K l w := by
  rw [if_pos hend]; exact h

/-- what next leaves, pos bytes of the text being read -/
def NextPost (T : ByteArray) (B b rb pos : Nat) (ts : Option Nat) (K : PS) (w : World) (r : Ending) (w' : World) : Prop :=
  r = .returned (.int .i32 (chAt T pos)) ∧ ∃ K' l', Scn T B b rb (if pos < T.size then pos + 1 else pos) ts K' l' w' ∧ Same K K' ∧ K'.lcl = (if pos < T.size then 1 else 0) ∧ Below B w w' ∧ KeptO b rb w w' ∧ (∀ t, ts = some t → t + l'.length ≤ pos) ∧ K'.lcl ≤ K'.sp
theorem NextPost.mk {T : ByteArray} {B b rb pos : Nat} {ts : Option Nat} {K K' : PS} {l' : List UInt8} {w w' : World} {x : Int} (h1 : x = chAt T pos) (h2 : Scn T B b rb (if pos < T.size then pos + 1 else pos) ts K' l' w') (h3 : Same K K') (h4 : K'.lcl = (if pos < T.size then 1 else 0)) (h5 : Below B w w') (h6 : KeptO b rb w w') (h7 : ∀ t, ts = some t → t + l'.length ≤ pos) (h8 : K'.lcl ≤ K'.sp) : NextPost T B b rb pos ts K w (.returned (.int .i32 x)) w' := ⟨by rw [h1], K', l', h2, h3, h4, h5, h6, h7, h8⟩

set_option maxHeartbeats 8000000 in
set_option maxRecDepth 100000 in
theorem next_refill (T : ByteArray) (B b rb : Nat) (ts : Option Nat) (K : PS) (l : List UInt8) (w : World) (o e : Nat) (hS : SAt B b K l w) (hR : RdAt rb T (o + e) w) (hW : Win T K o e e) (hT : TokAt T K l o e ts) (hl : l.length ≤ 2000) (htx : Txt T) (hE : SEnv B b rb w) (hsrc : K.src = .iface 89 (.pointer (some ⟨rb, 0, none⟩))) :
    Calls Tryz.prog 63 #[.pointer (some ⟨b, 0, none⟩)] w (NextPost T B b rb (o + e) ts K w) := by
  have d0 : w.cell? ⟨b, 1026, none⟩ = some (.int .i64 e) := by rw [hS.cell 1026 (.inl (by decide))]; show some (Value.int .i64 K.sp) = _; rw [hW.sp]
  have d0e : w.cell? ⟨b, 1027, none⟩ = some (.int .i64 e) := by rw [hS.cell 1027 (.inl (by decide))]; show some (Value.int .i64 K.se) = _; rw [hW.se]
  have d1 : w.cell? ⟨b, 1 + e, none⟩ = some (.int .u8 128) := by rw [hS.buf e hW.e1024, hW.sent]; rfl
  obtain ⟨tp, htp⟩ : ∃ tp : Int, tp = K.tp := ⟨_, rfl⟩
  have HTP := Lib.hid htp
  have d6 : w.cell? ⟨b, 1036, none⟩ = some (.int .i64 tp) := by rw [htp]; exact hS.cell 1036 (.inr (by decide))
  clear htp
  have f0 := hS.fz
  have he1 := hW.e1024
  have hsl : ∀ w, (Instr.sliceAt 63 (.pointer (some ⟨b, 1, none⟩)) (some (.int .i64 (e : Int))) (some (.int .i64 (e : Int))) none).run Tryz.prog w = .ok (.slice (some ⟨b, 1 + e, none⟩) 0 (1025 - e)) w := by
    intro w
    have hal : Tryz.prog.arrayLen 63 = 1025 := by rfl
    rw [run_sliceAt_array_lh w 63 ⟨b, 1, none⟩ (by rfl) .i64 .i64 e e (by omega) (by omega) (by rw [hal]; omega), hal]
    have hne : ¬ 1025 = e := by omega
    simp [go_sem, hne]
  have hwr : IntKind.i64.wrap ((e : Int) + 4) = (e : Int) + 4 := by rw [IntKind.wrap_i64]; omega
  have hlt : decide ((e : Int) < (e : Int) + 4) = true := decide_eq_true (by omega)
  have HS := Lib.hid hS
  have HR := Lib.hid hR
  have HW := Lib.hid hW
  have HT := Lib.hid hT
  have HE := Lib.hid hE
  clear hS hR hW hT hE
  go_enter Tryz.func63, Tryz.ntmps63
  go_upto_region 1 with fail
  go_quiet (fail)
  go_upto_block 0 with fail
  go_wp2_with fail
  refine wp_loop_rounds 2 ?_
  rw [rounds_succ]
  go_upto_region 3 with fail
  go_quiet ((go_at_call 94; exact (full_zero _ _ _).mono (fun e' w' h => ⟨h.1, _, h.2.symm⟩)))
  go_upto_if 50 with fail
  obtain ⟨db, hdb⟩ : ∃ db, db = decide (0 ≤ tp) := ⟨_, rfl⟩
  rw [← hdb]
  have HDB := Lib.hid hdb
  clear hdb
  go_cut [] from 51 to 69 (fun wx => ∃ (K1 : PS) (l1 : List UInt8), Hid (SAt B b K1 l1 wx) ∧ Hid (RdAt rb T (o + e) wx) ∧ Hid (TokAt T K1 l1 (o + e) 0 ts) ∧ l1.length ≤ 2000 ∧ Hid (K1 = { K with tp := K1.tp }) ∧ Hid (Below B w wx) ∧ Hid (KeptO b rb w wx))
  case first =>
    cases ts with
    | none =>
      have htp : tp = -1 := HTP.out.trans HT.out
      have hdb : db = false := by rw [HDB.out, htp]; rfl
      clear htp
      subst hdb
      go_wp2_with fail
      go_meet
      exact ⟨K, l, HS.out.drewN _, HR.out.of_heap rfl, HT.out, hl, rfl, below_drewN (Below.refl B w) _, (KeptO.refl b rb w).heap rfl⟩
    | some t =>
      obtain ⟨q, h1, h2, h3, h4⟩ := HT.out
      have htp : tp = (q : Int) := HTP.out.trans h1
      have hdb : db = true := by rw [HDB.out, htp]; exact decide_eq_true (by omega)
      subst htp hdb
      have hsl2 : ∀ w, (Instr.sliceAt 63 (.pointer (some ⟨b, 1, none⟩)) (some (.int .i64 (q : Int))) (some (.int .i64 (e : Int))) none).run Tryz.prog w = .ok (.slice (some ⟨b, 1 + q, none⟩) (e - q) (1025 - q)) w := by
        intro w
        have hal : Tryz.prog.arrayLen 63 = 1025 := by rfl
        rw [run_sliceAt_array_lh w 63 ⟨b, 1, none⟩ (by rfl) .i64 .i64 q e (by omega) (by omega) (by rw [hal]; omega), hal]
        have hne : ¬ 1025 = q := by omega
        simp [go_sem, hne]
      obtain ⟨cs, hcs⟩ : ∃ cs, cs = (T.data.toList.drop (o + q)).take (e - q) := ⟨_, rfl⟩
      have hoe := HW.out.oe
      have hcl : cs.length = e - q := by rw [hcs, List.length_take, List.length_drop, size_toList]; omega
      have C74 : Hid (∀ w1, w1.heap = w.heap → Below B w w1 → Calls Tryz.prog 74 #[.pointer (some ⟨b, 1033, none⟩), .slice (some ⟨b, 1 + q, none⟩) (e - q) (1025 - q)] w1 fun e' w' => e' = .returned (.tuple #[.int .i64 (e - q : Nat), .nilIface]) ∧ Hid (SAt B b K (l ++ cs) w' ∧ Below B w w' ∧ RdAt rb T (o + e) w' ∧ KeptO b rb w w')) := by
        intro w1 hw1 hb1
        refine (write_any B b K l cs q (e - q) (1025 - q) w1 (HS.out.of_heap hw1) (by have := HE.out.size; rw [hw1]; exact this) hcl (by omega) ?_ (by omega)).mono ?_
        · intro j hj
          rw [HW.out.buf (q + j) (by omega), hcs, List.getD_eq_getElem?_getD, List.getD_eq_getElem?_getD, List.getElem?_take, if_pos hj, List.getElem?_drop, show o + q + j = o + (q + j) by omega]
        · rintro e' w' ⟨rfl, q1, q2, q3⟩
          refine ⟨rfl, q1, hb1.trans q2, ?_, ((KeptO.refl b rb w).heap hw1).ok q3⟩
          obtain ⟨x, hx⟩ := HR.out
          refine ⟨x, q3 rb _ (by rw [hw1]; exact hx) ?_ ?_⟩
          · have := HS.out.ne HR.out
            intro h
            exact this (Option.some.inj h)
          · intro c fz h
            injection h with _ h2 _
            revert h2
            decide
      go_wp2_with fail
      have C74b : Hid (∀ n, Calls Tryz.prog 74 #[.pointer (some ⟨b, 1033, none⟩), .slice (some ⟨b, 1 + q, none⟩) (e - q) (1025 - q)] (w.drewN n) fun e' w' => e' = .returned (.tuple #[.int .i64 (e - q : Nat), .nilIface]) ∧ Hid (SAt B b K (l ++ cs) w' ∧ Below B w w' ∧ RdAt rb T (o + e) w' ∧ KeptO b rb w w')) := fun n => C74.out _ rfl (below_drewN (Below.refl B w) n)
      go_region_with (go_at_call 74; refine (C74b.out _).mono ?_; rintro e' w' ⟨rfl, q1⟩)
      all_goals
        have f6 := q1.out.1.fz
        have g6 := q1.out.1.cell 1036 (.inr (by decide))
        go_wp2_with fail
        go_meet
        have hne := HS.out.ne HR.out
        refine ⟨{ K with tp := 0 }, l ++ cs, q1.out.1.setTp 0, q1.out.2.2.1.setB hne, ⟨0, rfl, Nat.zero_le _, ?_, ?_⟩, ?_, rfl, q1.out.2.1.setCell (p := ⟨b, 1036, none⟩) HS.out.le _, q1.out.2.2.2.setB⟩
        · rw [List.length_append, hcl, List.take_add, ← h3, List.drop_drop, ← h4, hcs]
        · rw [List.length_append, hcl]; omega
        · have := htx.size; rw [List.length_append, hcl]; omega
  case rest =>
    clear d0 d0e d1 d6 f0
    obtain ⟨K1, l1, hS, hR, hT, hl1, hK1, hB1, hO1⟩ := hcut
    have e1 : K1.sp = K.sp := by rw [hK1.out]
    have e2 : K1.se = K.se := by rw [hK1.out]
    have e3 : K1.off = K.off := by rw [hK1.out]
    have e4 : K1.buf = K.buf := by rw [hK1.out]
    have d0 : wc.cell? ⟨b, 1026, none⟩ = some (.int .i64 e) := by rw [hS.out.cell 1026 (.inl (by decide))]; show some (Value.int .i64 K1.sp) = _; rw [e1, HW.out.sp]
    have d0e : wc.cell? ⟨b, 1027, none⟩ = some (.int .i64 e) := by rw [hS.out.cell 1027 (.inl (by decide))]; show some (Value.int .i64 K1.se) = _; rw [e2, HW.out.se]
    have d2 : wc.cell? ⟨b, 1028, none⟩ = some (.int .i64 o) := by rw [hS.out.cell 1028 (.inl (by decide))]; show some (Value.int .i64 K1.off) = _; rw [e3, HW.out.off]
    have f0 := hS.out.fz
    have hinfo : (Tryz.prog.info? 5).map (·.size) = some 1 := by kernel_rfl
    have hce : ∀ d dLen dCap a c W, (Builtin.copy_ #[59, 59] 3 #[.slice d dLen dCap, .slice (some a) 0 c]).run Tryz.prog W = .ok (goInt 0) W := fun d dLen dCap a c W => run_copy_none W 59 59 3 5 d (some a) dLen dCap 0 c Tryz.underlying59 hinfo (by simp)
    have hsl0 : ∀ w, (Instr.sliceAt 63 (.pointer (some ⟨b, 1, none⟩)) (some (.int .i64 0)) none none).run Tryz.prog w = .ok (.slice (some ⟨b, 1, none⟩) 1025 1025) w := by
      intro w
      have hal : Tryz.prog.arrayLen 63 = 1025 := by rfl
      rw [run_sliceAt_array_l w 63 ⟨b, 1, none⟩ (by rfl) .i64 0 (by decide) (by rw [hal]; omega), hal]
      simp [go_sem]
    go_upto_region 7 with fail
    go_region
    all_goals
      go_upto_region 8 with fail
      go_region
    go_upto_region 9 with fail
    go_quiet (fail)
    go_upto_region 10 with fail
    have hwo : wrap64 ((o : Int) + (e : Int)) = ((o + e : Nat) : Int) := by
      have := HW.out.oe
      have := htx.size
      unfold wrap64
      omega
    rw [hwo]
    obtain ⟨w2, hw2⟩ : ∃ w2, w2 = (wc.setCell ⟨b, 1028, none⟩ (.int .i64 ((o + e : Nat) : Int))).drew.drew.drewN nq := ⟨_, rfl⟩
    have hne := HS.out.ne HR.out
    have HS2 : Hid (SAt B b { K1 with off := ((o + e : Nat) : Int) } l1 w2) := by
      show SAt _ _ _ _ _
      rw [hw2]
      exact (hS.out.setOff _).of_heap rfl
    have HR2 : Hid (RdAt rb T (o + e) w2) := by
      show RdAt _ _ _ _
      rw [hw2]
      exact (hR.out.setB hne).of_heap rfl
    have HB2 : Hid (Below B w w2) := by
      show Below _ _ _
      rw [hw2]
      exact below_drewN (((hB1.out.setCell (p := ⟨b, 1028, none⟩) HS.out.le _).drew).drew) nq
    have HO2 : Hid (KeptO b rb w w2) := by
      show KeptO _ _ _ _
      rw [hw2]
      exact (hO1.out.setB).heap rfl
    rw [← hw2]
    clear hw2 d0 d0e d2 f0 hsl0 hce hwo
    have HE2 := Lib.hid (HE.out.below HB2.out (Nat.le_refl _))
    have s0 : w2.cell? ⟨b, 0, none⟩ = some (.iface 89 (.pointer (some ⟨rb, 0, none⟩))) := by
      rw [HS2.out.cell 0 (.inl (by decide))]
      show some K1.src = _
      rw [hK1.out, hsrc]
    have f0 := HS2.out.fz
    have hslr : ∀ w, (Instr.sliceAt 63 (.pointer (some ⟨b, 1, none⟩)) (some (.int .i64 0)) (some (.int .i64 1024)) none).run Tryz.prog w = .ok (.slice (some ⟨b, 1, none⟩) 1024 1025) w := by
      intro w
      have hal : Tryz.prog.arrayLen 63 = 1025 := by rfl
      rw [run_sliceAt_array_lh w 63 ⟨b, 1, none⟩ (by rfl) .i64 .i64 0 1024 (by decide) (by decide) (by rw [hal]; omega), hal]
      simp [go_sem]
    have hmeth : ∀ w, (method 333 89 (.pointer (some ⟨rb, 0, none⟩)) "Read").run Tryz.prog w = .ok (159, .pointer (some ⟨rb, 0, none⟩)) w := fun w => rfl
    by_cases hend : o + e < T.size
    · obtain ⟨n, hn⟩ : ∃ n, n = if T.size - (o + e) ≤ 1024 then T.size - (o + e) else 1024 := ⟨_, rfl⟩
      have hn1 : n ≤ 1024 := by rw [hn]; split <;> omega
      have hn0 : 1 ≤ n := by rw [hn]; split <;> omega
      have hn2 : n ≤ T.size - (o + e) := by rw [hn]; split <;> omega
      have C159 : Hid (Calls Tryz.prog 159 #[.pointer (some ⟨rb, 0, none⟩), .slice (some ⟨b, 1, none⟩) 1024 1025] w2.drew fun e' w' => e' = .returned (.tuple #[.int .i64 n, .nilIface]) ∧ Hid (SAt B b { { K1 with off := ((o + e : Nat) : Int) } with buf := fun j => if j < n then (T.data.toList.getD (o + e + j) 0).toNat else K1.buf j } l1 w' ∧ RdAt rb T (o + e + n) w' ∧ Below B w w' ∧ KeptO b rb w w')) := by
        refine (read_some B b rb T (o + e) { K1 with off := ((o + e : Nat) : Int) } l1 w2.drew (HR2.out.of_heap rfl) (HS2.out.of_heap rfl) hend htx.size HE.out.rb n hn).mono ?_
        rintro e' w' ⟨rfl, q1, q2, q3, q4⟩
        exact ⟨rfl, q1, q2, (HB2.out.drew).trans q3, (HO2.out.heap (w2 := w2.drew) rfl).trans q4⟩
      have HN := Lib.hid hn
      clear hn
      go_region_with (go_at_call 159; refine C159.out.mono ?_; rintro e' w' ⟨rfl, q1⟩)
      all_goals
        obtain ⟨K2, hK2⟩ : ∃ K2 : PS, K2 = { { K1 with off := ((o + e : Nat) : Int) } with buf := fun j => if j < n then (T.data.toList.getD (o + e + j) 0).toNat else K1.buf j } := ⟨_, rfl⟩
        rw [← hK2] at q1
        have HK2 := Lib.hid hK2
        clear hK2
        have f1 := q1.out.1.fz
        have g0 := q1.out.1.cell 1026 (.inl (by decide))
        have g1 := q1.out.1.cell 1027 (.inl (by decide))
        have g2 := q1.out.1.buf n hn1
        replace g0 : w'.cell? ⟨b, 1026, none⟩ = some (.int .i64 K2.sp) := g0
        replace g1 : w'.cell? ⟨b, 1027, none⟩ = some (.int .i64 K2.se) := g1
        have hfin : ∀ w4 : World, w4 = (((w'.setCell ⟨b, 1026, none⟩ (.int .i64 0)).setCell ⟨b, 1027, none⟩ (.int .i64 (n : Int))).setCell ⟨b, 1 + n, none⟩ (.int .u8 128)).drew →
            Hid (∃ K4 : PS, SAt B b K4 l1 w4 ∧ Win T K4 (o + e) n 0 ∧ RdAt rb T (o + e + n) w4 ∧ Below B w w4 ∧ TokAt T K4 l1 (o + e) 0 ts ∧ Same K K4 ∧ KeptO b rb w w4) := by
          intro w4 hw4
          rw [hw4]
          have hA := ((q1.out.1.setSp 0).setSe n).setBuf n 128 hn1
          refine ⟨_, hA.of_heap rfl, ?_, ?_, ?_, ?_, ?_, (q1.out.2.2.2.setB.setB.setB).heap rfl⟩
          · refine ⟨?_, rfl, rfl, Nat.zero_le _, hn1, by omega, fun k hk => ?_, ?_⟩
            · show K2.off = _
              rw [HK2.out]
            · show (if k = n then 128 else K2.buf k) = _
              rw [if_neg (by omega), HK2.out]
              show (if k < n then _ else _) = _
              rw [if_pos hk]
            · show (if n = n then 128 else K2.buf n) = 128
              rw [if_pos rfl]
          · exact (((q1.out.2.1.setB hne).setB hne).setB hne).of_heap rfl
          · exact (((q1.out.2.2.1.setCell (p := ⟨b, 1026, none⟩) HS.out.le _).setCell (p := ⟨b, 1027, none⟩) HS.out.le _).setCell (p := ⟨b, 1 + n, none⟩) HS.out.le _).drew
          · have hk2 : K2.tp = K1.tp := by rw [HK2.out]
            cases ts with
            | none => exact hk2.trans hT.out
            | some t =>
              obtain ⟨q, a1, a2, a3, a4⟩ := hT.out
              exact ⟨q, hk2.trans a1, a2, a3, a4⟩
          · have hx := hK1.out
            constructor
            · show K2.src = _; rw [HK2.out, hx]
            · show K2.te = _; rw [HK2.out, hx]
            · show K2.ch = _; rw [HK2.out, hx]
            · show K2.ev = _; rw [HK2.out, hx]
            · show K2.ec = _; rw [HK2.out, hx]
            · show K2.mode = _; rw [HK2.out, hx]
            · show K2.ws = _; rw [HK2.out, hx]
            · show K2.idr = _; rw [HK2.out, hx]
            · show K2.pk = _; rw [HK2.out, hx]
        have HFIN := Lib.hid hfin
        clear hfin
        go_upto_region 13 with fail
        go_region
        go_upto_region 14 with fail
        obtain ⟨w4, hw4⟩ : ∃ w4, w4 = (((w'.setCell ⟨b, 1026, none⟩ (.int .i64 0)).setCell ⟨b, 1027, none⟩ (.int .i64 (n : Int))).setCell ⟨b, 1 + n, none⟩ (.int .u8 128)).drew := ⟨_, rfl⟩
        obtain ⟨K4, hS4, hW4, hR4, hB4, hT4, hSm, hO4⟩ := (HFIN.out w4 hw4).out
        rw [← hw4]
        have HS4 := Lib.hid hS4
        have HW4 := Lib.hid hW4
        have HR4 := Lib.hid hR4
        have HB4 := Lib.hid hB4
        have HT4 := Lib.hid hT4
        have HSM := Lib.hid hSm
        have HO4 := Lib.hid hO4
        clear hw4 HFIN g0 g1 g2 f1 s0 f0 hS4 hW4 hR4 hB4 hT4 hSm hO4 q1 HK2
        obtain ⟨hc0, hc1⟩ := htx.at (o + e) hend
        obtain ⟨c, hc⟩ : ∃ c, c = (T.data.toList.getD (o + e) 0).toNat := ⟨_, rfl⟩
        rw [← hc] at hc0 hc1
        have m0 : w4.cell? ⟨b, 1026, none⟩ = some (.int .i64 0) := by rw [HS4.out.cell 1026 (.inl (by decide))]; show some (Value.int .i64 K4.sp) = _; rw [HW4.out.sp]; rfl
        have m1 : w4.cell? ⟨b, 1027, none⟩ = some (.int .i64 n) := by rw [HS4.out.cell 1027 (.inl (by decide))]; show some (Value.int .i64 K4.se) = _; rw [HW4.out.se]
        have m2 : w4.cell? ⟨b, 1, none⟩ = some (.int .u8 c) := by
          have h1 := HS4.out.buf 0 (by omega)
          have h2 := HW4.out.buf 0 (by omega)
          rw [show o + e + 0 = o + e from rfl, ← hc] at h2
          rw [h2] at h1
          exact h1
        have f4 := HS4.out.fz
        have HCC := Lib.hid hc
        clear hc
        have hsl4 : ∀ w, (Instr.sliceAt 63 (.pointer (some ⟨b, 1, none⟩)) (some (.int .i64 0)) (some (.int .i64 (n : Int))) none).run Tryz.prog w = .ok (.slice (some ⟨b, 1, none⟩) n 1025) w := by
          intro w
          have hal : Tryz.prog.arrayLen 63 = 1025 := by rfl
          rw [run_sliceAt_array_lh w 63 ⟨b, 1, none⟩ (by rfl) .i64 .i64 0 n (by decide) (by omega) (by rw [hal]; omega), hal]
          simp [go_sem]
        have C94 : Hid (∀ k, Calls Tryz.prog 94 #[.slice (some ⟨b, 1, none⟩) n 1025] (w4.drewN k) fun e' w' => e' = .returned (.bool true) ∧ w4.drewN k = w') := fun k =>
          full_ascii ⟨b, 1, none⟩ n 1025 c (w4.drewN k) hn0 (by omega) m2 hc1 (HE.out.below HB4.out (Nat.le_refl _)).first
        have hchv : Hid (chAt T (o + e) = (c : Int)) := by show chAt T (o + e) = _; unfold chAt; rw [if_pos hend, HCC.out]
        have hcz : ((c : Int) == 0) = false := by rw [beq_eq_false_iff_ne]; omega
        have d3 : w4.cell? ⟨b, 1029, none⟩ = some (.int .i64 K4.line) := HS4.out.cell 1029 (.inl (by decide))
        have d2 : w4.cell? ⟨b, 1030, none⟩ = some (.int .i64 K4.col) := HS4.out.cell 1030 (.inl (by decide))
        have d4 : w4.cell? ⟨b, 1031, none⟩ = some (.int .i64 K4.lll) := HS4.out.cell 1031 (.inl (by decide))
        have d5 : w4.cell? ⟨b, 1032, none⟩ = some (.int .i64 K4.lcl) := HS4.out.cell 1032 (.inl (by decide))
        have hBb := HS.out.le
        have HEND := Lib.hid hend
        clear hend
        go_wp2_with fail
        rw [rounds_succ]
        cases h4 : decide ((n : Int) < 4)
        all_goals
          go_upto_region 3 with fail
          go_quiet ((go_at_call 94; exact (C94.out _).mono (fun e' w' h => ⟨h.1, _, h.2.symm⟩)))
          go_upto_region 22 with fail
          go_quiet (fail)
          have HSM' := HSM.out
          cases hnl : ((c : Int) == 10)
          · go_wp2_with fail
            go_ret
            refine NextPost.mk (K' := { K4 with sp := 1, lcl := 1, col := wrap64 (K4.col + 1) }) (l' := l1) hchv.out.symm (scn_some HEND.out ⟨o + e, n, 0 + 1, (((HS4.out.drewN _).setSp _).setLcl _).setCol _, (((HR4.out.of_heap (w' := w4.drewN _) rfl).setB hne).setB hne).setB hne, HW4.out.adv (by omega) rfl rfl rfl rfl, by omega, HT4.out.adv rfl, hl1⟩) ⟨HSM'.src, HSM'.te, HSM'.ch, HSM'.ev, HSM'.ec, HSM'.mode, HSM'.ws, HSM'.idr, HSM'.pk⟩ (by rw [if_pos HEND.out]) ?_ (HO4.out.heap (w2 := w4.drewN _) rfl).setB.setB.setB HT4.out.len (Int.le_refl 1)
            exact (((below_drewN HB4.out _).setCell (p := ⟨b, 1026, none⟩) hBb _).setCell (p := ⟨b, 1032, none⟩) hBb _).setCell (p := ⟨b, 1030, none⟩) hBb _
          · go_wp2_with fail
            go_ret
            refine NextPost.mk (K' := { K4 with sp := 1, lcl := 1, col := 0, line := wrap64 (K4.line + 1), lll := wrap64 (K4.col + 1) }) (l' := l1) hchv.out.symm (scn_some HEND.out ⟨o + e, n, 0 + 1, ((((((HS4.out.drewN _).setSp _).setLcl _).setCol _).setLine _).setLll _).setCol _, ((((((HR4.out.of_heap (w' := w4.drewN _) rfl).setB hne).setB hne).setB hne).setB hne).setB hne).setB hne, HW4.out.adv (by omega) rfl rfl rfl rfl, by omega, HT4.out.adv rfl, hl1⟩) ⟨HSM'.src, HSM'.te, HSM'.ch, HSM'.ev, HSM'.ec, HSM'.mode, HSM'.ws, HSM'.idr, HSM'.pk⟩ (by rw [if_pos HEND.out]) ?_ (HO4.out.heap (w2 := w4.drewN _) rfl).setB.setB.setB.setB.setB.setB HT4.out.len (Int.le_refl 1)
            exact ((((((below_drewN HB4.out _).setCell (p := ⟨b, 1026, none⟩) hBb _).setCell (p := ⟨b, 1032, none⟩) hBb _).setCell (p := ⟨b, 1030, none⟩) hBb _).setCell (p := ⟨b, 1029, none⟩) hBb _).setCell (p := ⟨b, 1031, none⟩) hBb _).setCell (p := ⟨b, 1030, none⟩) hBb _
    · have hTe : o + e = T.size := by have := HW.out.oe; omega
      obtain ⟨ep, eo, hep⟩ := HE2.out.eof
      have C159 : Hid (Calls Tryz.prog 159 #[.pointer (some ⟨rb, 0, none⟩), .slice (some ⟨b, 1, none⟩) 1024 1025] w2.drew fun e' w' => e' = .returned (.tuple #[.int .i64 0, .iface 137 (.pointer (some ⟨ep, eo, none⟩))]) ∧ ∃ k, w' = w2.drewN k) := by
        have hrd : RdAt rb T T.size w2.drew := by rw [← hTe]; exact HR2.out.of_heap rfl
        refine (read_end rb T w2.drew _ _ hrd hep).mono ?_
        rintro e' w' ⟨rfl, k, rfl⟩
        exact ⟨rfl, 1 + k, World.drewN_drewN w2 1 k⟩
      have hchv : Hid (chAt T (o + e) = -1) := by show chAt T (o + e) = _; unfold chAt; rw [if_neg (by omega)]
      have HEND := Lib.hid hend
      have hBb := HS.out.le
      have k0 : w2.cell? ⟨b, 1026, none⟩ = some (.int .i64 K1.sp) := HS2.out.cell 1026 (.inl (by decide))
      have k1 : w2.cell? ⟨b, 1027, none⟩ = some (.int .i64 K1.se) := HS2.out.cell 1027 (.inl (by decide))
      have k2 : w2.cell? ⟨b, 1, none⟩ = some (.int .u8 (K1.buf 0)) := HS2.out.buf 0 (by omega)
      have k5 : w2.cell? ⟨b, 1032, none⟩ = some (.int .i64 K1.lcl) := HS2.out.cell 1032 (.inl (by decide))
      have k6 : w2.cell? ⟨b, 1030, none⟩ = some (.int .i64 K1.col) := HS2.out.cell 1030 (.inl (by decide))
      have hoe : Hid (o + e + 0 ≤ T.size) := by show _ ≤ _; omega
      have HTE := Lib.hid hTe
      clear hend hTe
      have hnq := neq_same ep eo
      go_region_with (go_at_call 159; refine C159.out.mono ?_; rintro e' w' ⟨rfl, k, rfl⟩)
      all_goals
        go_upto_region 13 with fail
        go_region
        have hA := (((HS2.out.setSp 0).setSe 0).setBuf 0 128 (by decide))
        have hRd := ((HR2.out.setB hne (j := 1026) (v := .int .i64 0)).setB hne (j := 1027) (v := .int .i64 0)).setB hne (j := 1 + 0) (v := .int .u8 (128 : Nat))
        have hx := hK1.out
        have hTk : ∀ K' : PS, K'.tp = K1.tp → TokAt T K' l1 (o + e) 0 ts := fun K' h => by
          cases ts with
          | none => exact h.trans hT.out
          | some t =>
            obtain ⟨q, a1, a2, a3, a4⟩ := hT.out
            exact ⟨q, h.trans a1, a2, a3, a4⟩
        have HA := Lib.hid hA
        have HRD := Lib.hid hRd
        have HTK := Lib.hid hTk
        have HX := Lib.hid hx
        clear hA hRd hTk hx
        cases hl0 : decide (0 < K1.lcl)
        · go_wp2_with fail
          go_ret
          refine NextPost.mk (K' := { K1 with off := ((o + e : Nat) : Int), sp := 0, se := 0, buf := fun j => if j = 0 then 128 else K1.buf j, lcl := 0 }) (l' := l1) hchv.out.symm ?_ ?_ (by rw [if_neg HEND.out]) ?_ (KeptO.heap (KeptO.setB (j := 1032) (v := .int .i64 0) (KeptO.setB (j := 1) (v := .int .u8 128) (KeptO.setB (j := 1027) (v := .int .i64 0) (KeptO.setB (j := 1026) (v := .int .i64 0) (HO2.out.heap (w2 := w2.drewN k) rfl))))) rfl) (HTK.out K1 rfl).len (Int.le_refl 0)
          · rw [if_neg HEND.out]
            exact ⟨o + e, 0, 0, (HA.out.setLcl 0).of_heap rfl, (HRD.out.setB hne (j := 1032) (v := .int .i64 0)).of_heap rfl, ⟨rfl, rfl, rfl, Nat.le_refl _, by decide, hoe.out, fun k hk => absurd hk (Nat.not_lt_zero k), rfl⟩, rfl, HTK.out _ rfl, hl1⟩
          · constructor <;> rw [HX.out]
          · exact (((((below_drewN HB2.out k).setCell (p := ⟨b, 1026, none⟩) hBb _).setCell (p := ⟨b, 1027, none⟩) hBb _).setCell (p := ⟨b, 1, none⟩) hBb _).setCell (p := ⟨b, 1032, none⟩) hBb _).drew
        · go_wp2_with fail
          go_ret
          refine NextPost.mk (K' := { K1 with off := ((o + e : Nat) : Int), sp := 0, se := 0, buf := fun j => if j = 0 then 128 else K1.buf j, col := wrap64 (K1.col + 1), lcl := 0 }) (l' := l1) hchv.out.symm ?_ ?_ (by rw [if_neg HEND.out]) ?_ (KeptO.heap (KeptO.setB (j := 1032) (v := .int .i64 0) (KeptO.setB (j := 1030) (v := .int .i64 (wrap64 (K1.col + 1))) (KeptO.setB (j := 1) (v := .int .u8 128) (KeptO.setB (j := 1027) (v := .int .i64 0) (KeptO.setB (j := 1026) (v := .int .i64 0) (HO2.out.heap (w2 := w2.drewN k) rfl)))))) rfl) (HTK.out K1 rfl).len (Int.le_refl 0)
          · rw [if_neg HEND.out]
            exact ⟨o + e, 0, 0, ((HA.out.setCol _).setLcl 0).of_heap rfl, ((HRD.out.setB hne (j := 1030) (v := .int .i64 (wrap64 (K1.col + 1)))).setB hne (j := 1032) (v := .int .i64 0)).of_heap rfl, ⟨rfl, rfl, rfl, Nat.le_refl _, by decide, hoe.out, fun k hk => absurd hk (Nat.not_lt_zero k), rfl⟩, rfl, HTK.out _ rfl, hl1⟩
          · constructor <;> rw [HX.out]
          · exact ((((((below_drewN HB2.out k).setCell (p := ⟨b, 1026, none⟩) hBb _).setCell (p := ⟨b, 1027, none⟩) hBb _).setCell (p := ⟨b, 1, none⟩) hBb _).setCell (p := ⟨b, 1030, none⟩) hBb _).setCell (p := ⟨b, 1032, none⟩) hBb _).drew

theorem next_any (T : ByteArray) (B b rb pos : Nat) (ts : Option Nat) (K : PS) (l : List UInt8) (w : World) (h : Scn T B b rb pos ts K l w) (htx : Txt T) (hE : SEnv B b rb w) (hsrc : K.src = .iface 89 (.pointer (some ⟨rb, 0, none⟩))) :
    Calls Tryz.prog 63 #[.pointer (some ⟨b, 0, none⟩)] w (NextPost T B b rb pos ts K w) := by
  obtain ⟨o, e, p, hS, hR, hW, rfl, hT, hl⟩ := h
  by_cases hp : p < e
  · refine (next_in T B b rb ts K l w o e p hS hR hW hT hl htx hp).mono ?_
    rintro r w' ⟨K', l', rfl, h2, h3, h4, h5, h6, h7, h8⟩
    have hlt : o + p < T.size := by have := hW.oe; omega
    exact NextPost.mk rfl (scn_some hlt h2) h3 (by rw [if_pos hlt]; exact h4) h5 h6 h7 h8
  · have hpe : p = e := by have := hW.pe; omega
    subst hpe
    exact next_refill T B b rb ts K l w o p hS hR hW hT hl htx hE hsrc

end Go.Proofs.YtfmkfnochjeleaaGreatDoor
