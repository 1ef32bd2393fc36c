import Derived.Test.YtfmkfnochjeleaaGreatDoorT2
import Derived.Laws.EntriesVeiled
import Derived.Test.YtfmkfnochjeleaaGreatDoorE2
import Derived.Test.YtfmkfnochjeleaaGreatDoorE3
namespace Go.Proofs.YtfmkfnochjeleaaGreatDoor
open Go.RowKit

/-- the bytes of T from s on, n of them -/
def cut (T : ByteArray) (s n : Nat) : ByteArray := ⟨((T.data.toList.drop s).take n).toArray⟩

/-- the token's place in the window -/
theorem Look.win {T : ByteArray} {B b rb s e : Nat} {K : PS} {l : List UInt8} {w : World} (h : Look T B b rb e (some s) K l w) : ∃ (o tp te p : Nat), K.tp = tp ∧ K.sp - K.lcl = te ∧ tp ≤ te ∧ te ≤ 1024 ∧ o + tp = s + l.length ∧ o + te = e ∧ l = (T.data.toList.drop s).take l.length ∧ l.length ≤ 2000 ∧ (∀ k, k < te → K.buf k = (T.data.toList.getD (o + k) 0).toNat) ∧ RdAt rb T p w := by
  obtain ⟨⟨o, e', p, h1, h2, h3, h4, ⟨tp, h5, h5b, h5c, h5d⟩, h6⟩, h7, h8, h9, h10⟩ := h
  have ha := h9 s rfl
  have hsp := h3.sp
  have hpe := h3.pe
  have h1024 := h3.e1024
  by_cases hq : e < T.size
  · rw [if_pos hq] at h4 h7
    have hl : K.lcl = 1 := h7
    exact ⟨o, tp, p - 1, o + e', h5, by omega, by omega, by omega, h5d, by omega, h5c, h6, fun k hk => h3.buf k (by omega), h2⟩
  · rw [if_neg hq] at h4 h7
    have hl : K.lcl = 0 := h7
    exact ⟨o, tp, p, o + e', h5, by omega, by omega, by omega, h5d, by omega, h5c, h6, fun k hk => h3.buf k (by omega), h2⟩

theorem Look.wrote {T : ByteArray} {B b rb s e te : Nat} {K : PS} {l l' : List UInt8} {w w' : World} (h : Look T B b rb e (some s) K l w) (hz : T.size ≤ 2000) (hte : K.sp - K.lcl = (te : Int)) (hs : s ≤ e) (hS : SAt B b { K with tp := te } l' w') (hR : ∀ i, RdAt rb T i w → RdAt rb T i w') (hl : l' = (T.data.toList.drop s).take (e - s)) : Look T B b rb e (some s) { K with tp := te } l' w' := by
  obtain ⟨⟨o, e', p, h1, h2, h3, h4, h5, h6⟩, h7, h8, h9, h10⟩ := h
  have hp := h3.sp
  have hln : l'.length = e - s := by rw [hl, List.length_take, List.length_drop, size_toList]; omega
  refine ⟨⟨o, e', p, hS, hR _ h2, h3.same rfl rfl rfl rfl, h4, ⟨te, rfl, ?_, ?_, ?_⟩, by omega⟩, h7, h8, fun t ht => ?_, h10⟩
  · have hl0 : 0 ≤ K.lcl := by rw [h7]; split <;> omega
    omega
  · rw [hln]; exact hl
  · rw [hln]
    by_cases hq : e < T.size
    · rw [if_pos hq] at h4 h7
      have hl : K.lcl = 1 := h7
      omega
    · rw [if_neg hq] at h4 h7
      have hl : K.lcl = 0 := h7
      omega
  · injection ht with ht
    subst ht
    omega

set_option maxHeartbeats 4000000 in
set_option maxRecDepth 100000 in
theorem tokText_any (T : ByteArray) (B b rb s e : Nat) (K : PS) (l : List UInt8) (w : World) (h : Look T B b rb e (some s) K l w) (hE : Env T B b rb K w) (hte : K.te = K.sp - K.lcl) (hse : s ≤ e) :
    Calls Tryz.prog 46 #[.pointer (some ⟨b, 0, none⟩)] w fun r w' => r = .returned (.string (cut T s (e - s))) ∧ ∃ l' K', Hid (Flow T B b rb e (some s) K l' K' w w' ∧ K'.ch = K.ch) := by
  obtain ⟨o, tp, te, p, h1, h2, h3, h4, h5, h6, h7, h8, h9, h10⟩ := h.win
  have hte0 := h2
  rw [h2] at hte
  have hsz := hE.txt.size
  have hle := h.le
  have d0 : w.cell? ⟨b, 1036, none⟩ = some (.int .i64 tp) := by rw [h.sat.cell 1036 (.inr (by decide))]; show some (Value.int .i64 K.tp) = _; rw [h1]
  have d1 : w.cell? ⟨b, 1037, none⟩ = some (.int .i64 te) := by rw [h.sat.cell 1037 (.inr (by decide))]; show some (Value.int .i64 K.te) = _; rw [hte]
  have f0 := h.sat.fz
  have k1 : decide ((tp : Int) < 0) = false := by simp
  have k2 : decide ((te : Int) < tp) = false := by simp; omega
  have hsl : ∀ w, (Instr.sliceAt 63 (.pointer (some ⟨b, 1, none⟩)) (some (.int .i64 (tp : Int))) (some (.int .i64 (te : Int))) none).run Tryz.prog w = .ok (.slice (some ⟨b, 1 + tp, none⟩) (te - tp) (1025 - tp)) w := by
    intro w
    have hal : Tryz.prog.arrayLen 63 = 1025 := by rfl
    rw [run_sliceAt_array_lh w 63 ⟨b, 1, none⟩ (by rfl) .i64 .i64 tp te (by omega) (by omega) (by rw [hal]; omega), hal]
    have hne : ¬ 1025 = tp := by omega
    simp [go_sem, hne]
  obtain ⟨cs, hcs⟩ : ∃ cs, cs = (T.data.toList.drop (o + tp)).take (te - tp) := ⟨_, rfl⟩
  have hcl : cs.length = te - tp := by rw [hcs, List.length_take, List.length_drop, size_toList]; omega
  have hlc : l ++ cs = (T.data.toList.drop s).take (e - s) := by
    rw [show e - s = l.length + (te - tp) by omega, List.take_add, ← h7, List.drop_drop, ← h5, hcs]
  have hbc : ∀ j, j < te - tp → K.buf (tp + j) = (cs.getD j 0).toNat := by
    intro j hj
    rw [h9 (tp + j) (by omega), hcs, List.getD_eq_getElem?_getD, List.getD_eq_getElem?_getD, List.getElem?_take, if_pos hj, List.getElem?_drop, show o + tp + j = o + (tp + j) by omega]
  obtain ⟨n0, hn0⟩ : ∃ n0, n0 = l.length := ⟨_, rfl⟩
  have C73 : Hid (∀ n, Calls Tryz.prog 73 #[.pointer (some ⟨b, 1033, none⟩)] (w.drewN n) fun r w' => r = .returned (.int .i64 n0) ∧ ∃ m, w' = (w.drewN n).drewN m) := by
    intro n
    refine (Tryz.Buffer_Len_at _ _ _ _ _ _ _ (h.sat.drewN n)).mono ?_
    rintro r w' ⟨rfl, m, rfl⟩
    exact ⟨by rw [show (Lib.byteCells l).length = l.length by simp [Lib.byteCells], hn0], m, rfl⟩
  have hne := h.sat
  have H := Lib.hid h
  have H5 := Lib.hid h5
  have H6 := Lib.hid h6
  have H7 := Lib.hid h7
  have H8 := Lib.hid h8
  have HE := Lib.hid hE
  have HCL := Lib.hid hcl
  have HLC := Lib.hid hlc
  have HBC := Lib.hid hbc
  have HTE := Lib.hid hte0
  have HSZ := Lib.hid hsz
  have HSE := Lib.hid hse
  have hBb := h.sat.le
  by_cases hz : n0 = 0
  · have hl : l = [] := List.length_eq_zero_iff.1 (by omega)
    subst hz hl
    have hcv : ∀ m, (convert 59 9 (.slice (some ⟨b, 1 + tp, none⟩) (te - tp) (1025 - tp))).run Tryz.prog (w.drewN m) = .ok (.string (cut T s (e - s))) (w.drewN m) := by
      intro m
      have := run_convert_bytes_back (P := Tryz.prog) (w.drewN m) 59 9 5 ⟨b, 1 + tp, none⟩ (1025 - tp) cs Tryz.underlying59 Tryz.underlying5 Tryz.underlying9 (fun j hj => by
        have hs := (h.sat.drewN m).buf (tp + j) (by omega)
        rw [hbc j (by omega), List.getD_eq_getElem?_getD, List.getElem?_eq_getElem hj] at hs
        rw [show (⟨b, 1 + tp, none⟩ : Addr).add j = ⟨b, 1 + (tp + j), none⟩ by simp [Addr.add, Nat.add_assoc]]
        exact hs)
      rw [hcl] at this
      rw [this]
      unfold cut
      rw [← hlc]
      rfl
    clear h hE h1 h2 h9 hte h5 h6 h7 h8 hcs hcl hlc hbc hte0 hn0 hsz hle hse hne
    go_enter Tryz.func46, Tryz.ntmps46
    go_upto_region 3 with fail
    go_quiet (fail)
    go_upto_region 6 with (go_at_call 73; refine (C73.out _).mono ?_; rintro r w' ⟨rfl, n2, rfl⟩)
    go_quiet (fail)
    go_wp2_with fail
    go_ret
    exact ⟨rfl, [], K, ⟨H.out.heap rfl, SameT.refl K, below_drewN (below_drewN (Below.refl B w) _) _, (KeptO.refl b rb w).heap rfl⟩, rfl⟩
  · have hnz : ((n0 : Int) == 0) = false := by rw [beq_eq_false_iff_ne]; omega
    have C74 : Hid (∀ m, Calls Tryz.prog 74 #[.pointer (some ⟨b, 1033, none⟩), .slice (some ⟨b, 1 + tp, none⟩) (te - tp) (1025 - tp)] (w.drewN m) fun e' w' => e' = .returned (.tuple #[.int .i64 (te - tp : Nat), .nilIface]) ∧ w'.cell? ⟨b, 1036, none⟩ = some (.int .i64 tp) ∧ w'.cell? ⟨b, 1037, none⟩ = some (.int .i64 te) ∧ (∀ i, w'.frozen? ⟨b, i, none⟩ = false) ∧ Hid (SAt B b K (l ++ cs) w' ∧ Below B w w' ∧ (∀ i, RdAt rb T i w → RdAt rb T i w') ∧ KeptO b rb w w')) := by
      intro m
      refine (write_any B b K l cs tp (te - tp) (1025 - tp) (w.drewN m) (h.sat.drewN m) hE.env.size hcl (by omega) hbc (by omega)).mono ?_
      rintro e' w' ⟨rfl, q1, q2, q3⟩
      have g1 := q1.cell 1036 (.inr (by decide))
      have g2 := q1.cell 1037 (.inr (by decide))
      have g1' : w'.cell? ⟨b, 1036, none⟩ = some (.int .i64 K.tp) := g1
      have g2' : w'.cell? ⟨b, 1037, none⟩ = some (.int .i64 K.te) := g2
      rw [h1] at g1'
      rw [hte] at g2'
      refine ⟨rfl, g1', g2', q1.fz, q1, (below_drewN (Below.refl B w) m).trans q2, ?_, ((KeptO.refl b rb w).heap rfl).ok q3⟩
      rintro i ⟨x, hx⟩
      refine ⟨x, q3 rb _ hx ?_ ?_⟩
      · have := h.sat.ne (show RdAt rb T i w from ⟨x, hx⟩)
        intro h
        exact this (Option.some.inj h)
      · intro c fz h
        injection h with _ h2 _
        revert h2
        decide
    have C75 : Hid (∀ w1, Hid (SAt B b { K with tp := te } (l ++ cs) w1) → Calls Tryz.prog 75 #[.pointer (some ⟨b, 1033, none⟩)] w1 fun r w' => r = .returned (.string (cut T s (e - s))) ∧ ∃ n, w' = w1.drewN n) := by
      intro w1 hS1
      refine (Tryz.Buffer_String_at _ _ _ _ _ _ _ hS1.out).mono ?_
      rintro r w' ⟨rfl, n, rfl⟩
      exact ⟨by rw [hlc]; rfl, n, rfl⟩
    clear h hE h1 h2 h9 hte h5 h6 h7 h8 hcs hcl hlc hbc hte0 hn0 hsz hle hse hne
    go_enter Tryz.func46, Tryz.ntmps46
    go_upto_region 3 with fail
    go_quiet (fail)
    go_upto_region 7 with (go_at_call 73; refine (C73.out _).mono ?_; rintro r w' ⟨rfl, n2, rfl⟩)
    go_region_with (go_at_call 74; refine (C74.out _).mono ?_; rintro e' w' ⟨rfl, c1, c2, f2, q1⟩)
    all_goals
      go_upto_region 9 with fail
      have hS1 := Lib.hid (q1.out.1.setTp te)
      go_wp2_with (go_at_call 75; refine (C75.out _ hS1).mono ?_; rintro r w3 ⟨rfl, n3, rfl⟩)
      go_ret
      refine ⟨rfl, l ++ cs, { K with tp := te }, ⟨Look.heap (H.out.wrote HSZ.out HTE.out HSE.out hS1.out (fun i hr => (q1.out.2.2.1 i hr).setB (H.out.sat.ne hr)) HLC.out) rfl, ⟨rfl, rfl, rfl, rfl, rfl, rfl⟩, below_drewN (q1.out.2.1.setCell (p := ⟨b, 1036, none⟩) hBb _) _, (q1.out.2.2.2.setB).heap rfl⟩, rfl⟩

end Go.Proofs.YtfmkfnochjeleaaGreatDoor

namespace Go.Proofs.YtfmkfnochjeleaaGreatDoor
open Go.RowKit

/-- the parser's cells that stay -/
structure LK (rb : Nat) (K : PS) : Prop where
  src : K.src = .iface 89 (.pointer (some ⟨rb, 0, none⟩))
  idr : K.idr = .nilFunc
  mode : K.mode = 28
  ws : K.ws = 4294977024
  pk : K.pk = .string ⟨#[]⟩
theorem LK.step {rb : Nat} {K K' : PS} (h : LK rb K) (hs : SameT K K') : LK rb K' := ⟨hs.src.trans h.src, hs.idr.trans h.idr, hs.mode.trans h.mode, hs.ws.trans h.ws, hs.pk.trans h.pk⟩
theorem LK.setEv {rb : Nat} {K : PS} (h : LK rb K) (v : Value) : LK rb { K with ev := v } := ⟨h.src, h.idr, h.mode, h.ws, h.pk⟩
theorem Rest.alloc {T : ByteArray} {B b rb q : Nat} {K : PS} {w : World} (h : Rest T B b rb q K w) (o : Obj) : Rest T B b rb q K (w.alloc o) := by
  rcases h with ⟨ts, l, h1, h2⟩ | ⟨h1, h2, l, o', e, p, h3, h4, h5⟩
  · exact .inl ⟨ts, l, h1.alloc o, h2⟩
  · exact .inr ⟨h1, h2, l, o', e, p, h3.below ((Below.refl _ _).alloc (Nat.le_refl _) o), h4.of_heap (Below.heap_alloc _ _ _ h4.lt), h5⟩
theorem Rest.setEv {T : ByteArray} {B b rb q : Nat} {K : PS} {w : World} (h : Rest T B b rb q K w) (v : Value) : Rest T B b rb q { K with ev := v } (w.setCell ⟨b, 1039, none⟩ v) := by
  rcases h with ⟨ts, l, h1, h2⟩ | ⟨h1, h2, l, o', e, p, h3, h4, h5, h6, h7, h8⟩
  · exact .inl ⟨ts, l, h1.setEv v, h2⟩
  · exact .inr ⟨h1, h2, l, o', e, p, h3.setEv v, h4.setB (h3.ne h4), h5.same rfl rfl rfl rfl, h6, h7.of_tp rfl, h8⟩
theorem Rest.sat {T : ByteArray} {B b rb q : Nat} {K : PS} {w : World} (h : Rest T B b rb q K w) : ∃ l, SAt B b K l w := by
  rcases h with ⟨ts, l, h1, h2⟩ | ⟨h1, h2, l, o', e, p, h3, h4, h5⟩
  · exact ⟨l, h1.sat⟩
  · exact ⟨l, h3⟩
theorem Rest.rd {T : ByteArray} {B b rb q : Nat} {K : PS} {w : World} (h : Rest T B b rb q K w) : rb < w.heap.size := by
  rcases h with ⟨ts, l, h1, h2⟩ | ⟨h1, h2, l, o', e, p, h3, h4, h5⟩
  · exact h1.lt.2
  · exact h4.lt
def GEof (w : World) : Prop := ∃ s, w.cell? ⟨3, 0, none⟩ = some (.string s)

def LexPost (T : ByteArray) (B b rb q n : Nat) (w : World) (e : Ending) (w' : World) : Prop :=
  (q = T.size ∧ ∃ v, e = .returned (.tuple #[.string ⟨#[]⟩, .iface 96 v]) ∧ Below B w w') ∨
  (q < T.size ∧ e = .returned (.tuple #[.string (cut T q n), .nilIface]) ∧ ∃ K', Rest T B b rb (q + n) K' w' ∧ LK rb K' ∧ Below B w w' ∧ KeptO b rb w w')

set_option maxHeartbeats 4000000 in
set_option maxRecDepth 100000 in
theorem lexNext_any (T : ByteArray) (B b rb q q1 n : Nat) (K : PS) (w : World) (h : Rest T B b rb q K w) (hT : Txt T) (hE : SEnv B b rb w) (hL : LK rb K) (hG : GEof w) (hq1 : q ≤ q1) (hqs : q1 ≤ T.size) (hw : ∀ i, q ≤ i → i < q1 → WsI (chAt T i)) (hk : Kind T q1 n) (hU : ∀ i, chAt T i ≠ 95) :
    Calls Tryz.prog 36 #[.pointer (some ⟨b, 0, none⟩)] w (LexPost T B b rb q1 n w) := by
  obtain ⟨l, hS⟩ := h.sat
  have d0 : w.cell? ⟨b, 1048, none⟩ = some (.string ⟨#[]⟩) := by rw [hS.cell 1048 (.inr (by decide))]; show some K.pk = _; rw [hL.pk]
  have d1 : w.cell? ⟨b, 1039, none⟩ = some K.ev := hS.cell 1039 (.inr (by decide))
  have f0 := hS.fz
  have hBb := hS.le
  have hlt := hS.lt
  have hrd := h.rd
  have H := Lib.hid h
  have HT := Lib.hid hT
  have HE := Lib.hid hE
  have HL := Lib.hid hL
  obtain ⟨gs, hg⟩ := hG
  obtain ⟨l2, hS2⟩ := (h.alloc (.cells #[.nilIface] 39)).sat
  have d2 : (w.alloc (.cells #[.nilIface] 39)).cell? ⟨b, 1039, none⟩ = some K.ev := hS2.cell 1039 (.inr (by decide))
  have f2 := hS2.fz
  obtain ⟨clo, hclo⟩ : ∃ clo, clo = Value.func (Fn.func 44) #[] #[.pointer (some ⟨w.heap.size, 0, none⟩)] := ⟨_, rfl⟩
  obtain ⟨w1, hw1⟩ : ∃ w1, w1 = (w.setCell ⟨b, 1039, none⟩ clo).alloc (.cells #[.nilIface] 39) := ⟨_, rfl⟩
  have hR1 : Rest T B b rb q { K with ev := clo } w1 := by rw [hw1]; exact (h.setEv clo).alloc _
  have hB1 : Below B w w1 := by rw [hw1]; exact ((Below.refl B w).setCell (p := ⟨b, 1039, none⟩) hBb _).alloc (by have := hE.size; simpa using this) _
  have hO1 : KeptO b rb w w1 := by rw [hw1]; exact (KeptO.setB (KeptO.refl b rb w)).trans (KeptO.alloc b rb _ _)
  have he1 : w1.heap[w.heap.size]? = some (.cells #[.nilIface] 39 (0, 0)) := by
    rw [hw1]
    show ((w.setCell ⟨b, 1039, none⟩ clo).heap.push _)[w.heap.size]? = _
    have e : w.heap.size = (w.setCell ⟨b, 1039, none⟩ clo).heap.size := by simp
    rw [e]
    exact Array.getElem?_push_size
  have hL1 := hL.setEv clo
  have hE1 := hE.below hB1 (Nat.le_refl _)
  have hEv : Env T B b rb { K with ev := clo } w1 := ⟨hT, hE1, hL1.src, hL1.idr, hL1.mode⟩
  have C45 : Hid (Calls Tryz.prog 45 #[.pointer (some ⟨b, 0, none⟩)] w1 fun e w' => ∃ tok : Int, e = .returned (.int .i32 tok) ∧ (tok == -1) = decide (q1 = T.size) ∧ w'.cell? ⟨w.heap.size, 0, none⟩ = some .nilIface ∧ w'.cell? ⟨3, 0, none⟩ = some (.string gs) ∧ ∃ l K', Hid (Flow T B b rb (q1 + n) (some q1) { K with ev := clo } l K' w1 w' ∧ K'.ch = chAt T (q1 + n) ∧ K'.te = K'.sp - K'.lcl)) := by
    refine (scan_any T B b rb q q1 n { K with ev := clo } w1 hR1 hEv hL1.ws hq1 hqs hw hk hU).mono ?_
    rintro e w' ⟨tok, rfl, h1, l, K', h2⟩
    have h3 := h2.out.1.2.2.2 _ _ he1 (by omega) (by omega) (fun c fz e => by injection e with e1 e2; revert e2; decide)
    have hg3 := hE.globs
    refine ⟨tok, rfl, h1, by rw [Lib.cell_of_heap h3]; rfl, ?_, l, K', h2⟩
    rw [(hB1.trans h2.out.1.2.2.1).cell (show (⟨3, 0, none⟩ : Addr).block < B by show 3 < B; omega)]
    exact hg
  have C46 : Hid (∀ w2 l K', Hid (Flow T B b rb (q1 + n) (some q1) { K with ev := clo } l K' w1 w2 ∧ K'.ch = chAt T (q1 + n) ∧ K'.te = K'.sp - K'.lcl) → Calls Tryz.prog 46 #[.pointer (some ⟨b, 0, none⟩)] w2 fun e w' => e = .returned (.string (cut T q1 n)) ∧ Hid (∃ K', Rest T B b rb (q1 + n) K' w' ∧ LK rb K' ∧ Below B w w' ∧ KeptO b rb w w')) := by
    intro w2 l K' hF
    obtain ⟨⟨f1, f2, f3, f4⟩, f5, f6⟩ := hF.out
    refine (tokText_any T B b rb q1 (q1 + n) K' l w2 f1 (hEv.stepT f2 f3) f6 (by omega)).mono ?_
    rintro e w' ⟨rfl, l3, K3, h3⟩
    obtain ⟨⟨g1, g2, g3, g4⟩, g5⟩ := h3.out
    rw [Nat.add_sub_cancel_left]
    exact ⟨rfl, K3, .inl ⟨_, l3, g1, g5.trans f5⟩, (hL1.step f2).step g2, (hB1.trans f3).trans g3, (hO1.trans f4).trans g4⟩
  have HW1 := Lib.hid hw1
  have HCLO := Lib.hid hclo
  have HB1 := Lib.hid hB1
  have HQS := Lib.hid hqs
  clear h hT hE hL hS hS2 hR1 hB1 hO1 he1 hL1 hE1 hEv hw hk hU hq1 hqs hw1 hclo
  go_enter Tryz.func36, Tryz.ntmps36
  go_upto_region 7 with fail
  rw [← HCLO.out, ← HW1.out]
  clear HW1 HCLO d0 d1 d2 f0 f2
  by_cases hend : q1 = T.size
  · rw [decide_eq_true hend] at C45
    have HEND := Lib.hid hend
    clear hend
    go_wp2_with (go_at_call 45; refine C45.out.mono ?_; rintro e w2 ⟨tok, rfl, ht, e1, e2, l, K', hF⟩)
    go_quiet (fail)
    go_wp2_with fail
    go_ret2
    exact .inl ⟨HEND.out, _, rfl, below_drewN (HB1.out.trans hF.out.1.2.2.1) _⟩
  · rw [decide_eq_false hend] at C45
    have HEND := Lib.hid hend
    clear hend
    go_wp2_with first | (go_at_call 45; refine C45.out.mono ?_; rintro e w2 ⟨tok, rfl, ht, e1, e2, l, K', hF⟩) | (go_at_call 46; refine (C46.out _ _ _ hF).mono ?_; rintro e w3 ⟨rfl, hF3⟩)
    go_ret2
    exact .inr ⟨by have := HQS.out; have := HEND.out; omega, rfl, hF3.out⟩

end Go.Proofs.YtfmkfnochjeleaaGreatDoor

namespace Go.Proofs.YtfmkfnochjeleaaGreatDoor
open Go.RowKit

theorem order_self {R : Nat} (h : R < Fl.I) : (FloatKind.f64.format.order R R != some Ordering.eq) = false := by
  have e : FloatKind.f64.format.order R R = some Ordering.eq := by
    show Fl.F.order (Fl.sg false R) (Fl.sg false R) = _
    unfold Ieee.Format.order
    rw [Fl.read_fin false h]
    simp only [Ieee.Datum.order]
    simp [compare, compareOfLessAndEq]
  rw [e]; rfl
theorem not_gt_max {R : Nat} (h : R < Fl.I) : (FloatKind.f64.format.order R 9218868437227405311 == some Ordering.gt) = false := by
  have hI : Fl.I = 9218868437227405312 := rfl
  have e : FloatKind.f64.format.order R 9218868437227405311 ≠ some Ordering.gt := by
    show Fl.F.order (Fl.sg false R) (Fl.sg false 9218868437227405311) ≠ _
    unfold Ieee.Format.order
    rw [Fl.read_fin false h, Fl.read_fin false (show 9218868437227405311 < Fl.I by decide)]
    have h1 : Fl.pl R ≤ 971 := by unfold Fl.pl; split <;> omega
    have h2 : Fl.pl 9218868437227405311 = 971 := by decide
    have h3 : Fl.mg 9218868437227405311 = 9007199254740991 := by decide
    have h4 := Fl.mg_lt R
    rw [h2, h3]
    simp only [Ieee.Datum.order]
    have hb : min (Fl.pl R) 971 = Fl.pl R := by omega
    simp only [hb]
    have e1 : Ieee.signed false (Fl.mg R) (Fl.pl R - Fl.pl R).toNat = (Fl.mg R : Int) := by
      rw [Int.sub_self]
      show ((Fl.mg R <<< 0 : Nat) : Int) = _
      rw [Nat.shiftLeft_zero]
    have e2 : (9007199254740991 : Int) ≤ Ieee.signed false 9007199254740991 (971 - Fl.pl R).toNat := by
      show (9007199254740991 : Int) ≤ ((9007199254740991 <<< (971 - Fl.pl R).toNat : Nat) : Int)
      have : 9007199254740991 ≤ 9007199254740991 <<< (971 - Fl.pl R).toNat := by
        rw [Nat.shiftLeft_eq]
        exact Nat.le_mul_of_pos_right _ (Nat.two_pow_pos _)
      omega
    rw [e1]
    intro hg
    have hg2 : compare (Fl.mg R : Int) (Ieee.signed false 9007199254740991 (971 - Fl.pl R).toNat) = .gt := Option.some.inj hg
    rw [Int.compare_eq_gt] at hg2
    omega
  rw [beq_eq_false_iff_ne]; exact e
theorem andNot_fin {R : Nat} (h : R < Fl.I) : (bits BinOp.andNot IntKind.u64 (R : Int) 9223372036854775808).toNat = R := by
  have hI : Fl.I = 9218868437227405312 := rfl
  have := u64_andNot_nat R 9223372036854775808 (by omega) (by omega)
  have e9 : ((9223372036854775808 : Nat) : Int) = 9223372036854775808 := rfl
  rw [e9] at this
  rw [this, Int.toNat_natCast]
  have : (18446744073709551615 - 9223372036854775808 : Nat) = 2 ^ 63 - 1 := by decide
  rw [this, Nat.and_two_pow_sub_one_eq_mod]
  omega

theorem c37_fin (R : Nat) (w : World) (h : R < Fl.I) : Calls Tryz.prog 37 #[.float .f64 R] w fun e w' => e = .returned (.bool false) ∧ w = w' := by
  have h1 := order_self h
  go_enter Tryz.func37, Tryz.ntmps37
  go_wp2_with fail
  go_ret
  exact ⟨rfl, rfl⟩
theorem c47_fin (R : Nat) (w : World) (h : R < Fl.I) : Calls Tryz.prog 47 #[.float .f64 R] w fun e w' => e = .returned (.float .f64 R) ∧ w = w' := by
  have h1 := Lib.hid (andNot_fin h)
  have c14 := call14
  have c76 := call76
  go_enter Tryz.func47, Tryz.ntmps47
  go_wp2_with fail
  go_ret
  exact ⟨by rw [h1.out]; rfl, rfl⟩
theorem c38_fin (R : Nat) (w : World) (h : R < Fl.I) : Calls Tryz.prog 38 #[.float .f64 R, .int .i64 0] w fun e w' => e = .returned (.bool false) ∧ w = w' := by
  have C47 := Lib.hid (c47_fin R w h)
  have h1 := not_gt_max h
  go_enter Tryz.func38, Tryz.ntmps38
  go_wp2_with (go_at_call 47; refine C47.out.mono ?_; rintro e w' ⟨rfl, rfl⟩)
  go_ret
  exact ⟨rfl, rfl⟩
theorem c37_bad (f : Nat) (w : World) (h : InfNan f) : Calls Tryz.prog 37 #[.float .f64 f] w fun e w' => e = .returned (.bool (decide (f = 9221120237041090561))) ∧ w = w' := by
  rcases h with rfl | rfl | rfl
  · have h1 : (FloatKind.f64.format.order 9218868437227405312 9218868437227405312 != some Ordering.eq) = false := by decide +kernel
    go_enter Tryz.func37, Tryz.ntmps37
    go_wp2_with fail
    go_ret
    exact ⟨rfl, rfl⟩
  · have h1 : (FloatKind.f64.format.order 18442240474082181120 18442240474082181120 != some Ordering.eq) = false := by decide +kernel
    go_enter Tryz.func37, Tryz.ntmps37
    go_wp2_with fail
    go_ret
    exact ⟨rfl, rfl⟩
  · have h1 : (FloatKind.f64.format.order 9221120237041090561 9221120237041090561 != some Ordering.eq) = true := by decide +kernel
    go_enter Tryz.func37, Tryz.ntmps37
    go_wp2_with fail
    go_ret
    exact ⟨rfl, rfl⟩
theorem c38_bad (f : Nat) (w : World) (h : InfNan f) (hn : f ≠ 9221120237041090561) : Calls Tryz.prog 38 #[.float .f64 f, .int .i64 0] w fun e w' => e = .returned (.bool true) ∧ w = w' := by
  have c14 := call14
  have c76 := call76
  have h2 : (FloatKind.f64.format.order 9218868437227405312 9218868437227405311 == some Ordering.gt) = true := by decide +kernel
  have C47 : Hid (Calls Tryz.prog 47 #[.float .f64 f] w fun e w' => e = .returned (.float .f64 9218868437227405312) ∧ w = w') := by
    rcases h with rfl | rfl | rfl
    · have h3 : (bits BinOp.andNot IntKind.u64 ((9218868437227405312 : Nat) : Int) 9223372036854775808).toNat = 9218868437227405312 := by decide +kernel
      have h3' := Lib.hid h3
      clear h3
      go_enter Tryz.func47, Tryz.ntmps47
      go_wp2_with fail
      go_ret
      exact ⟨by first | rfl | rw [h3'.out], rfl⟩
    · have h3 : (bits BinOp.andNot IntKind.u64 ((18442240474082181120 : Nat) : Int) 9223372036854775808).toNat = 9218868437227405312 := by decide +kernel
      have h3' := Lib.hid h3
      clear h3
      go_enter Tryz.func47, Tryz.ntmps47
      go_wp2_with fail
      go_ret
      exact ⟨by first | rfl | rw [h3'.out], rfl⟩
    · exact absurd rfl hn
  clear h
  go_enter Tryz.func38, Tryz.ntmps38
  go_wp2_with (go_at_call 47; refine C47.out.mono ?_; rintro e w' ⟨rfl, rfl⟩)
  go_ret
  exact ⟨rfl, rfl⟩
end Go.Proofs.YtfmkfnochjeleaaGreatDoor
