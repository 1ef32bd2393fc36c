import Derived.Test.YtfmkfnochjeleaaGreatDoorT1
import Derived.Scope
namespace Go.Proofs.YtfmkfnochjeleaaGreatDoor
open Go.RowKit

def wsB (c : Int) : Bool := c == 32 || (c == 9 || (c == 10 || c == 13))
theorem wsB_key (c : Int) (h : ChOK c) : (bits .and .u64 4294977024 (IntKind.u64.wrap (2 ^ min (IntKind.u64.wrap c).toNat 64)) != 0) = wsB c := by
  have key : ∀ n : Fin 129, (bits .and .u64 4294977024 (IntKind.u64.wrap (2 ^ min (IntKind.u64.wrap ((n.val : Int) - 1)).toNat 64)) != 0) = wsB ((n.val : Int) - 1) := by decide +kernel
  have := key ⟨(c + 1).toNat, by have := h.1; have := h.2; omega⟩
  have e : (((c + 1).toNat : Nat) : Int) - 1 = c := by have := h.1; omega
  simp only [e] at this
  exact this
theorem wsB_of {c : Int} (h : WsI c) : wsB c = true := by rcases h with h | h | h | h <;> rw [h] <;> rfl
theorem wsB_not {c : Int} (h : ¬ WsI c) : wsB c = false := by
  unfold WsI at h
  unfold wsB
  simp only [Bool.or_eq_false_iff, beq_eq_false_iff_ne]
  omega

theorem Look.setPo {T : ByteArray} {B b rb q : Nat} {ts : Option Nat} {K : PS} {l : List UInt8} {w : World} (h : Look T B b rb q ts K l w) (x : Int) : Look T B b rb q ts { K with po := x } l (w.setCell ⟨b, 1045, none⟩ (.int .i64 x)) := h.upd 1045 _ (fun s => s.setPo x) rfl rfl rfl rfl rfl rfl
theorem Look.setPl {T : ByteArray} {B b rb q : Nat} {ts : Option Nat} {K : PS} {l : List UInt8} {w : World} (h : Look T B b rb q ts K l w) (x : Int) : Look T B b rb q ts { K with pl := x } l (w.setCell ⟨b, 1046, none⟩ (.int .i64 x)) := h.upd 1046 _ (fun s => s.setPl x) rfl rfl rfl rfl rfl rfl
theorem Look.setPc {T : ByteArray} {B b rb q : Nat} {ts : Option Nat} {K : PS} {l : List UInt8} {w : World} (h : Look T B b rb q ts K l w) (x : Int) : Look T B b rb q ts { K with pc := x } l (w.setCell ⟨b, 1047, none⟩ (.int .i64 x)) := h.upd 1047 _ (fun s => s.setPc x) rfl rfl rfl rfl rfl rfl
theorem Look.setCh {T : ByteArray} {B b rb q : Nat} {ts : Option Nat} {K : PS} {l : List UInt8} {w : World} (h : Look T B b rb q ts K l w) (x : Int) : Look T B b rb q ts { K with ch := x } l (w.setCell ⟨b, 1038, none⟩ (.int .i32 x)) := h.upd 1038 _ (fun s => s.setCh x) rfl rfl rfl rfl rfl rfl
theorem Look.setTe {T : ByteArray} {B b rb q : Nat} {ts : Option Nat} {K : PS} {l : List UInt8} {w : World} (h : Look T B b rb q ts K l w) (x : Int) : Look T B b rb q ts { K with te := x } l (w.setCell ⟨b, 1037, none⟩ (.int .i64 x)) := h.upd 1037 _ (fun s => s.setTe x) rfl rfl rfl rfl rfl rfl
theorem Look.setEv {T : ByteArray} {B b rb q : Nat} {ts : Option Nat} {K : PS} {l : List UInt8} {w : World} (h : Look T B b rb q ts K l w) (x : Value) : Look T B b rb q ts { K with ev := x } l (w.setCell ⟨b, 1039, none⟩ x) := h.upd 1039 _ (fun s => s.setEv x) rfl rfl rfl rfl rfl rfl
/-- a state reached from the world w -/
def Flow (T : ByteArray) (B b rb q : Nat) (ts : Option Nat) (K : PS) (l : List UInt8) (K' : PS) (w w' : World) : Prop := Look T B b rb q ts K' l w' ∧ SameT K K' ∧ Below B w w' ∧ KeptO b rb w w'
theorem Flow.post {T : ByteArray} {B b rb q q' : Nat} {ts : Option Nat} {K K' : PS} {l : List UInt8} {w w' w2 : World} (h : Flow T B b rb q ts K l K' w w') (hp : LookPost T B b rb q' ts K' w' w2) : ∃ l2 K2, Flow T B b rb q' ts K l2 K2 w w2 := by
  obtain ⟨h1, h2, h3, h4⟩ := h
  obtain ⟨K', l', p1, p2, p3, p4⟩ := hp
  exact ⟨l', K', p1, h2.trans p2.tok, h3.trans p3, h4.trans p4⟩

/-- what stands at q, n bytes long -/
inductive Kind (T : ByteArray) (q n : Nat) : Prop
  | eof (h : q = T.size) (hn : n = 0)
  | sign (h : chAt T q = 40 ∨ chAt T q = 41 ∨ chAt T q = 44 ∨ chAt T q = 45) (hn : n = 1)
  | word (h : ∀ i, i < n → isLetI (chAt T (q + i)) = true) (hn : 0 < n) (he : StopC (chAt T (q + n)))
  | num (h : isDigI (chAt T q) = true) (hp : chAt T q = 48 → isDigI (chAt T (q + 1)) = false) (p : Nat) (hM : MantAt T q p) (hX : ExpAt T p (q + n))
  | dot (h : chAt T q = 46) (h0 : 0 < dgAt T (q + 1)) (hX : ExpAt T (q + 1 + dgAt T (q + 1)) (q + n))

theorem isLetI_rng {c : Int} (h : isLetI c = true) : (65 ≤ c ∧ c ≤ 90) ∨ (97 ≤ c ∧ c ≤ 122) := by
  unfold isLetI at h
  simp only [Bool.or_eq_true, Bool.and_eq_true, decide_eq_true_eq] at h
  exact h
theorem isDigI_rng {c : Int} (h : isDigI c = true) : 48 ≤ c ∧ c ≤ 57 := by
  unfold isDigI at h
  simp only [Bool.and_eq_true, decide_eq_true_eq] at h
  exact h
theorem isLetI_not {c : Int} (h : ¬ ((65 ≤ c ∧ c ≤ 90) ∨ (97 ≤ c ∧ c ≤ 122))) : isLetI c = false := Bool.eq_false_iff.2 fun h2 => h (isLetI_rng h2)
theorem isDigI_not {c : Int} (h : ¬ (48 ≤ c ∧ c ≤ 57)) : isDigI c = false := Bool.eq_false_iff.2 fun h2 => h (isDigI_rng h2)
theorem idr0 {c : Int} (h : ¬ ((65 ≤ c ∧ c ≤ 90) ∨ (97 ≤ c ∧ c ≤ 122))) (h2 : c ≠ 95) : idr c 0 = false := by
  unfold idr
  rw [isLetI_not h, beq_eq_false_iff_ne.2 h2, Bool.and_comm]
  rfl
theorem idr_let {c : Int} (i : Nat) (h : isLetI c = true) : idr c i = true := by
  unfold idr
  rw [h, Bool.or_true]
  rfl
theorem stop_rng {c : Int} (h : StopC c) : c < 48 := by unfold StopC at h; omega
theorem idr_stop {c : Int} (h : StopC c) : idr c 1 = false := by
  have := stop_rng h
  unfold idr
  rw [isLetI_not (by omega), isDigI_not (by omega), beq_eq_false_iff_ne.2 (by omega)]
  rfl
/-- how far an identifier reaches -/
theorem ident_end {T : ByteArray} {q n q' : Nat} (h : ∀ i, i < n → isLetI (chAt T (q + i)) = true) (hn : 0 < n) (he : StopC (chAt T (q + n))) (h1 : q < q') (h2 : ∀ j, q < j → j < q' → idr (chAt T j) 1 = true) (h3 : idr (chAt T q') 1 = false) : q' = q + n := by
  rcases Nat.lt_trichotomy q' (q + n) with hlt | heq | hgt
  · have := h (q' - q) (by omega)
    rw [show q + (q' - q) = q' by omega] at this
    rw [idr_let 1 this] at h3
    cases h3
  · exact heq
  · have := h2 (q + n) (by omega) hgt
    rw [idr_stop he] at this
    cases this
theorem Kind.nws {T : ByteArray} {q n : Nat} (h : Kind T q n) : ¬ WsI (chAt T q) := by
  unfold WsI
  cases h with
  | eof h hn => rw [chAt_end T q (by omega)]; omega
  | sign h hn => omega
  | word h hn he => have := isLetI_rng (h 0 hn); rw [Nat.add_zero] at this; omega
  | num h hp p hM hX => have := isDigI_rng h; omega
  | dot h h0 hX => omega
theorem Flow.num {T : ByteArray} {B b rb q q' : Nat} {ts : Option Nat} {K K' : PS} {l : List UInt8} {w w' w2 : World} (h : Flow T B b rb q ts K l K' w w') (hp : LookPost T B b rb q' ts K' w' w2) : ∃ l2 K2, Flow T B b rb q' ts K l2 K2 w w2 := h.post hp

def ScanPost (T : ByteArray) (B b rb q n : Nat) (K : PS) (w : World) (e : Ending) (w' : World) : Prop :=
  ∃ tok : Int, e = .returned (.int .i32 tok) ∧ (tok == -1) = decide (q = T.size) ∧ ∃ l K', Hid (Flow T B b rb (q + n) (some q) K l K' w w' ∧ K'.ch = chAt T (q + n) ∧ K'.te = K'.sp - K'.lcl)

set_option maxHeartbeats 8000000 in
set_option maxRecDepth 100000 in


theorem scan_any (T : ByteArray) (B b rb q q1 n : Nat) (K : PS) (w : World) (h : Rest T B b rb q K w) (hE : Env T B b rb K w) (hws : K.ws = 4294977024) (hq1 : q ≤ q1) (hqs : q1 ≤ T.size) (hw : ∀ i, q ≤ i → i < q1 → WsI (chAt T i)) (hk : Kind T q1 n) (hU : ∀ i, chAt T i ≠ 95) :
    Calls Tryz.prog 45 #[.pointer (some ⟨b, 0, none⟩)] w (ScanPost T B b rb q1 n K w) := by
  have hnw := hk.nws
  have C62 : Hid (Calls Tryz.prog 62 #[.pointer (some ⟨b, 0, none⟩)] w fun e w' => e = .returned (.int .i32 (chAt T q)) ∧ ∃ K' l' ts, w'.cell? ⟨b, 1036, none⟩ = some (.int .i64 K'.tp) ∧ w'.cell? ⟨b, 1046, none⟩ = some (.int .i64 K'.pl) ∧ (∀ i, w'.frozen? ⟨b, i, none⟩ = false) ∧ Hid (Flow T B b rb q ts K l' K' w w')) := by
    refine (peek_any T B b rb q K w h hE).mono ?_
    rintro e w' ⟨rfl, ts, hg⟩
    obtain ⟨K', l', h1, h2, h3, h4⟩ := hg.out
    exact ⟨rfl, K', l', ts, h1.sat.cell 1036 (.inr (by decide)), h1.sat.cell 1046 (.inr (by decide)), h1.sat.fz, h1, h2, h3, h4⟩
  have HE := Lib.hid hE
  have HW := Lib.hid hw
  have HNW := Lib.hid hnw
  have HWS := Lib.hid hws
  have HQ := Lib.hid hq1
  have HK := Lib.hid hk
  have HU := Lib.hid hU
  have hsz := hE.txt.size
  clear h hE hw hnw hws hq1 hk hU
  go_enter Tryz.func45, Tryz.ntmps45
  go_wp2_with fail
  go_step3
  go_wp2_with (go_at_call 62; refine C62.out.mono ?_; rintro e w1 ⟨rfl, K1, l1, ts1, d1, d2, f1, hg⟩)
  go_step3
  go_wp2_with fail
  go_loopg [3] (T.size + 1 - q) (fun gk cv wr => ∃ q', cv = .int .i32 (chAt T q') ∧ Hid (q ≤ q' ∧ q' ≤ q1) ∧ Hid (gk = T.size + 1 - q') ∧ Hid (∃ l' K', Flow T B b rb q' none K l' K' w wr))
  case atStart =>
    obtain ⟨h1, h2, h3, h4⟩ := hg.out
    have hBb := h1.sat.le
    refine ⟨q, rfl, ⟨Nat.le_refl _, HQ.out⟩, rfl, l1, { { K1 with tp := -1 } with pl := 0 }, ?_, ⟨h2.src, h2.ev, h2.mode, h2.ws, h2.idr, h2.pk⟩, ?_, ?_⟩
    · exact h1.tpNone.setPl 0
    · exact (h3.setCell (p := ⟨b, 1036, none⟩) hBb _).setCell (p := ⟨b, 1046, none⟩) hBb _
    · exact h4.setB.setB
  case round =>
    obtain ⟨q', rfl, hqq, hgk, hr⟩ := hrel
    obtain ⟨l2, K2, hF⟩ := hr.out
    have d3 : wr.cell? ⟨b, 1042, none⟩ = some (.int .u64 4294977024) := by
      rw [hF.1.sat.cell 1042 (.inr (by decide))]
      show some (Value.int .u64 K2.ws) = _
      rw [hF.2.1.ws, HWS.out]
    have hb := wsB_key (chAt T q') (chAt_ok HE.out.txt q')
    by_cases hlt : q' < q1
    · rw [wsB_of (HW.out q' hqq.out.1 hlt)] at hb
      have C63 := Lib.hid (next_look T B b rb q' none K2 l2 wr hF.1 (HE.out.stepT hF.2.1 hF.2.2.1) (by omega))
      have HF := Lib.hid hF
      clear hF hr
      go_wp2_with (go_at_call 63; refine C63.out.mono ?_; rintro e w2 ⟨rfl, hq3⟩)
      obtain ⟨k, rfl⟩ : ∃ k, gk = k + 1 := ⟨gk - 1, by have := hgk.out; omega⟩
      go_roundg k
      case measure => omega
      case rel =>
        exact ⟨q' + 1, rfl, ⟨by have := hqq.out; omega, hlt⟩, by have := hgk.out; show k = _; omega, HF.out.post hq3.out⟩
    · have e1 : q' = q1 := by have := hqq.out; omega
      subst e1
      rw [wsB_not HNW.out] at hb
      have C64 : Hid (Calls Tryz.prog 64 #[.pointer (some ⟨b, 1033, none⟩)] wr fun e w' => e = .returned (.tuple #[]) ∧ w'.cell? ⟨b, 1026, none⟩ = some (.int .i64 K2.sp) ∧ w'.cell? ⟨b, 1032, none⟩ = some (.int .i64 K2.lcl) ∧ w'.cell? ⟨b, 1036, none⟩ = some (.int .i64 K2.tp) ∧ w'.cell? ⟨b, 1028, none⟩ = some (.int .i64 K2.off) ∧ w'.cell? ⟨b, 1045, none⟩ = some (.int .i64 K2.po) ∧ w'.cell? ⟨b, 1030, none⟩ = some (.int .i64 K2.col) ∧ w'.cell? ⟨b, 1029, none⟩ = some (.int .i64 K2.line) ∧ w'.cell? ⟨b, 1031, none⟩ = some (.int .i64 K2.lll) ∧ w'.cell? ⟨b, 1046, none⟩ = some (.int .i64 K2.pl) ∧ w'.cell? ⟨b, 1047, none⟩ = some (.int .i64 K2.pc) ∧ (∀ i, w'.frozen? ⟨b, i, none⟩ = false) ∧ Hid (Flow T B b rb q' none K [] K2 w w')) := by
        refine (reset_any B b K2 l2 wr hF.1.sat).mono ?_
        rintro e w' ⟨rfl, h1, h2, h3⟩
        refine ⟨rfl, h1.cell 1026 (.inl (by decide)), h1.cell 1032 (.inl (by decide)), h1.cell 1036 (.inr (by decide)), h1.cell 1028 (.inl (by decide)), h1.cell 1045 (.inr (by decide)), h1.cell 1030 (.inl (by decide)), h1.cell 1029 (.inl (by decide)), h1.cell 1031 (.inl (by decide)), h1.cell 1046 (.inr (by decide)), h1.cell 1047 (.inr (by decide)), h1.fz, hF.1.noBuf h1 h3, hF.2.1, hF.2.2.1.trans h2, hF.2.2.2.of_ne h3⟩
      obtain ⟨s0, s1, s2, s3, s4⟩ := hF.1.spB
      have hwr : wrap64 (K2.sp - K2.lcl) = K2.sp - K2.lcl := by unfold wrap64; omega
      obtain ⟨sp, hsp⟩ : ∃ x, x = K2.sp := ⟨_, rfl⟩
      obtain ⟨lcl, hlcl⟩ : ∃ x, x = K2.lcl := ⟨_, rfl⟩
      clear hF hr
      go_upto_region 7 with (go_at_call 64; refine C64.out.mono ?_; rintro e w2 ⟨rfl, c0, c1, c2, c3, c4, c5, c6, c7, c8, c9, f2, hF⟩)
      go_region
      all_goals
        go_upto_region 8 with fail
        go_region
      go_upto_if 58 with fail
      have hBb : B ≤ b := by obtain ⟨h1, _⟩ := hF.out; exact h1.sat.le
      go_cut [] from 58 to 91 (fun wx => Hid (∃ K3, Flow T B b rb q' (some q') K [] K3 w wx))
      case first =>
        cases hcol : decide (0 < K2.col)
        · go_wp2_with fail
          go_meet
          obtain ⟨h1, h2, h3, h4⟩ := hF.out
          refine ⟨_, Look.heap (((h1.tpStart.setPo (wrap64 (K2.off + (K2.sp - K2.lcl)))).setPl (wrap64 (K2.line - 1))).setPc K2.lll) rfl, ⟨h2.src, h2.ev, h2.mode, h2.ws, h2.idr, h2.pk⟩, ?_, ?_⟩
          · exact ((((h3.setCell (p := ⟨b, 1036, none⟩) hBb _).setCell (p := ⟨b, 1045, none⟩) hBb _).setCell (p := ⟨b, 1046, none⟩) hBb _).setCell (p := ⟨b, 1047, none⟩) hBb _).drew.drew
          · exact (h4.setB.setB.setB.setB).heap rfl
        · go_wp2_with fail
          go_meet
          obtain ⟨h1, h2, h3, h4⟩ := hF.out
          refine ⟨_, Look.heap (((h1.tpStart.setPo (wrap64 (K2.off + (K2.sp - K2.lcl)))).setPl K2.line).setPc K2.col) rfl, ⟨h2.src, h2.ev, h2.mode, h2.ws, h2.idr, h2.pk⟩, ?_, ?_⟩
          · exact ((((h3.setCell (p := ⟨b, 1036, none⟩) hBb _).setCell (p := ⟨b, 1045, none⟩) hBb _).setCell (p := ⟨b, 1046, none⟩) hBb _).setCell (p := ⟨b, 1047, none⟩) hBb _).drew.drew
          · exact (h4.setB.setB.setB.setB).heap rfl
      case rest =>
        obtain ⟨K3, hF3⟩ := hcut.out
        have d4 : wc.cell? ⟨b, 1041, none⟩ = some (.int .u64 28) := hF3.1.modeCell (hF3.2.1.mode.trans HE.out.mode)
        have hE3 := HE.out.stepT hF3.2.1 hF3.2.2.1
        have C65 := id65 b (chAt T q') 0 wc (chAt_ok HE.out.txt q') (hF3.1.idrCell hE3)
        have C67 := dec67 (chAt T q')
        have b1 : bits .and .u64 28 4 = 4 := by decide
        have b2 : bits .and .u64 28 24 = 24 := by decide
        have b3 : bits .and .u64 28 16 = 16 := by decide
        have b4 : bits .and .u64 28 64 = 0 := by decide
        have HF3 := Lib.hid hF3
        have HE3 := Lib.hid hE3
        clear hF hF3 hE3 hcut
        go_upto_block 2 with fail
        go_cut [3, 4] from 93 to 217 (fun cv tv wx => ∃ tok : Int, cv = .int .i32 (chAt T (q' + n)) ∧ tv = .int .i32 tok ∧ Hid ((tok == -1) = decide (q' = T.size)) ∧ Hid (∃ l K4, Flow T B b rb (q' + n) (some q') K l K4 w wx))
        case first =>
          cases HK.out with
          | eof h hn =>
            subst hn
            have e1 : chAt T q' = -1 := chAt_end T q' (by omega)
            have t1 : (chAt T q' == -1) = true := by rw [e1]; rfl
            rw [show idr (chAt T q') 0 = false by rw [e1]; exact idr_end 0] at C65
            rw [show isDigI (chAt T q') = false by rw [e1]; exact dig_end] at C67
            have C65' := Lib.hid C65
            have C67' := Lib.hid C67
            have H1 := Lib.hid e1
            have H2 := Lib.hid h
            clear C65 C67 e1 h
            go_wp2_with first | (go_at_call 65; refine C65'.out.mono ?_; rintro e w' ⟨rfl, rfl⟩) | (go_at_call 67; refine (C67'.out _).mono ?_; rintro e w' ⟨rfl, rfl⟩)
            go_meet
            refine ⟨chAt T q', rfl, rfl, ?_, [], K3, HF3.out⟩
            show _ = _
            rw [t1, decide_eq_true H2.out]
          | sign h hn =>
            subst hn
            have hlt : q' < T.size := ch_lt (by omega)
            have t1 : (chAt T q' == -1) = false := by rw [beq_eq_false_iff_ne]; omega
            have t2 : (chAt T q' == 34) = false := by rw [beq_eq_false_iff_ne]; omega
            have t3 : (chAt T q' == 39) = false := by rw [beq_eq_false_iff_ne]; omega
            have t4 : (chAt T q' == 46) = false := by rw [beq_eq_false_iff_ne]; omega
            have t5 : (chAt T q' == 47) = false := by rw [beq_eq_false_iff_ne]; omega
            have t6 : (chAt T q' == 96) = false := by rw [beq_eq_false_iff_ne]; omega
            rw [idr0 (c := chAt T q') (by omega) (by omega)] at C65
            rw [isDigI_not (c := chAt T q') (by omega)] at C67
            have C65' := Lib.hid C65
            have C67' := Lib.hid C67
            have C63 := Lib.hid (next_look T B b rb q' (some q') K3 [] wc HF3.out.1 HE3.out hlt)
            clear C65 C67 h
            go_wp2_with first | (go_at_call 65; refine C65'.out.mono ?_; rintro e w' ⟨rfl, rfl⟩) | (go_at_call 67; refine (C67'.out _).mono ?_; rintro e w' ⟨rfl, rfl⟩) | (go_at_call 63; refine C63.out.mono ?_; rintro e w2 ⟨rfl, hp⟩)
            go_meet
            refine ⟨chAt T q', rfl, rfl, ?_, HF3.out.post hp.out⟩
            show _ = _
            rw [t1, decide_eq_false (by omega)]
          | word h hn he =>
            have hl0 : isLetI (chAt T q') = true := by have := h 0 hn; rw [Nat.add_zero] at this; exact this
            have hrng := isLetI_rng hl0
            have hlt : q' < T.size := ch_lt (by omega)
            have hsz1 : Hid (¬ q' = T.size) := by show ¬ q' = T.size; omega
            rw [idr_let 0 hl0] at C65
            have C65' := Lib.hid C65
            have C66 : Hid (Calls Tryz.prog 66 #[.pointer (some ⟨b, 0, none⟩)] wc fun e w' => e = .returned (.int .i32 (chAt T (q' + n))) ∧ Hid (LookPost T B b rb (q' + n) (some q') K3 wc w')) := by
              refine (ident_any T B b rb q' (some q') K3 [] wc HF3.out.1 HE3.out hlt).mono ?_
              rintro e w' ⟨q2, rfl, hp⟩
              obtain ⟨p1, p2, p3, p4⟩ := hp.out
              have := ident_end h hn he p1 p2 p3
              subst this
              exact ⟨rfl, p4⟩
            clear C65 C67 h hl0 hrng he
            go_wp2_with first | (go_at_call 65; refine C65'.out.mono ?_; rintro e w' ⟨rfl, rfl⟩) | (go_at_call 66; refine C66.out.mono ?_; rintro e w2 ⟨rfl, hp⟩)
            go_meet
            refine ⟨-2, rfl, rfl, ?_, HF3.out.post hp.out⟩
            show _ = _
            rw [decide_eq_false hsz1.out]
            rfl
          | num h hp p hM hX =>
            have hrng := isDigI_rng h
            have hlt : q' < T.size := ch_lt (by omega)
            have hsz1 : Hid (¬ q' = T.size) := by show ¬ q' = T.size; omega
            rw [idr0 (c := chAt T q') (by omega) (by omega)] at C65
            rw [h] at C67
            have C65' := Lib.hid C65
            have C67' := Lib.hid C67
            have C68 := Lib.hid (scanNum_int T B b rb q' p (q' + n) (some q') K3 [] wc HF3.out.1 HE3.out HU.out (mantCase HE.out.txt h hp hM hX) hX)
            clear C65 C67 h hrng hM hX hp
            go_wp2_with first | (go_at_call 65; refine C65'.out.mono ?_; rintro e w' ⟨rfl, rfl⟩) | (go_at_call 67; refine (C67'.out _).mono ?_; rintro e w' ⟨rfl, rfl⟩) | (go_at_call 68; refine C68.out.mono ?_; rintro e w2 ⟨t, rfl, hp⟩)
            go_meet
            refine ⟨t, rfl, rfl, ?_, HF3.out.post hp.out.2⟩
            show _ = _
            rw [decide_eq_false hsz1.out]
            rcases hp.out.1 with h | h <;> rw [h] <;> rfl
          | dot h h0 hX =>
            have hlt : q' < T.size := ch_lt (by omega)
            have hsz1 : Hid (¬ q' = T.size) := by show ¬ q' = T.size; omega
            have t1 : (chAt T q' == -1) = false := by rw [h]; rfl
            have t2 : (chAt T q' == 34) = false := by rw [h]; rfl
            have t3 : (chAt T q' == 39) = false := by rw [h]; rfl
            have t4 : (chAt T q' == 46) = true := by rw [h]; rfl
            have hdg : isDigI (chAt T (q' + 1)) = true := by
              cases hd : isDigI (chAt T (q' + 1))
              · rw [dgAt_zero hd] at h0; omega
              · rfl
            have C67b := dec67 (chAt T (q' + 1))
            rw [hdg] at C67b
            rw [idr0 (c := chAt T q') (by omega) (by omega)] at C65
            rw [isDigI_not (c := chAt T q') (by omega)] at C67
            have C65' := Lib.hid C65
            have C67' := Lib.hid C67
            have C67b' := Lib.hid C67b
            have C63 : Hid (Calls Tryz.prog 63 #[.pointer (some ⟨b, 0, none⟩)] wc fun e w' => e = .returned (.int .i32 (chAt T (q' + 1))) ∧ w'.cell? ⟨b, 1041, none⟩ = some (.int .u64 28) ∧ Hid (LookPost T B b rb (q' + 1) (some q') K3 wc w')) := by
              refine (next_look T B b rb q' (some q') K3 [] wc HF3.out.1 HE3.out hlt).mono ?_
              rintro e w' ⟨rfl, hp⟩
              obtain ⟨K4, l4, p1, p2, p3, p4⟩ := hp.out
              exact ⟨rfl, p1.modeCell (p2.mode.trans HE3.out.mode), hp⟩
            have C68 : Hid (∀ w2, Hid (LookPost T B b rb (q' + 1) (some q') K3 wc w2) → Calls Tryz.prog 68 #[.pointer (some ⟨b, 0, none⟩), .int .i32 (chAt T (q' + 1)), .bool true] w2 fun e w' => ∃ t : Int, e = .returned (.tuple #[.int .i32 t, .int .i32 (chAt T (q' + n))]) ∧ Hid ((t = -3 ∨ t = -4) ∧ LookPost T B b rb (q' + n) (some q') K3 wc w')) := by
              intro w2 hp
              obtain ⟨K4, l4, p1, p2, p3, p4⟩ := hp.out
              refine (scanNum_dot T B b rb q' (q' + n) (some q') K4 l4 w2 p1 (HE3.out.step p2 p3) HU.out h0 hX).mono ?_
              rintro e w' ⟨t, rfl, hq⟩
              exact ⟨t, rfl, hq.out.1, hq.out.2.trans p2 p3 p4⟩
            clear C65 C67 C67b h hX h0 hdg
            go_wp2_with first | (go_at_call 65; refine C65'.out.mono ?_; rintro e w' ⟨rfl, rfl⟩) | (go_at_call 67; refine (C67'.out _).mono ?_; rintro e w' ⟨rfl, rfl⟩) | (go_at_call 67; refine (C67b'.out _).mono ?_; rintro e w' ⟨rfl, rfl⟩) | (go_at_call 63; refine C63.out.mono ?_; rintro e w2 ⟨rfl, hm, hp⟩) | (go_at_call 68; refine (C68.out _ hp).mono ?_; rintro e w3 ⟨t, rfl, hp⟩)
            go_meet
            refine ⟨t, rfl, rfl, ?_, HF3.out.post hp.out.2⟩
            show _ = _
            rw [decide_eq_false hsz1.out]
            rcases hp.out.1 with h | h <;> rw [h] <;> rfl
        case rest =>
          obtain ⟨tok, rfl, rfl, htok, hF⟩ := hcut
          obtain ⟨l4, K4, hF4⟩ := hF.out
          have g0 := hF4.1.sat.cell 1026 (.inl (by decide))
          have g1 := hF4.1.sat.cell 1032 (.inl (by decide))
          have g2 := hF4.1.sat.cell 1037 (.inr (by decide))
          have g3 := hF4.1.sat.cell 1038 (.inr (by decide))
          have g4 := hF4.1.sat.fz
          have g0' : wc.cell? ⟨b, 1026, none⟩ = some (.int .i64 K4.sp) := g0
          have g1' : wc.cell? ⟨b, 1032, none⟩ = some (.int .i64 K4.lcl) := g1
          have g2' : wc.cell? ⟨b, 1037, none⟩ = some (.int .i64 K4.te) := g2
          have g3' : wc.cell? ⟨b, 1038, none⟩ = some (.int .i32 K4.ch) := g3
          obtain ⟨s0, s1, s2, s3, s4⟩ := hF4.1.spB
          have hwr : wrap64 (K4.sp - K4.lcl) = K4.sp - K4.lcl := by unfold wrap64; omega
          have HF4 := Lib.hid hF4
          have hBb : B ≤ b := HF4.out.1.sat.le
          clear hF4 hF g0 g1 g2 g3 d4 C65 C67
          go_upto_region 54 with fail
          go_region
          all_goals
            go_wp2_with fail
            try rw [Exit.noGoto_ret]
            go_ret
            obtain ⟨h1, h2, h3, h4⟩ := HF4.out
            refine ⟨tok, rfl, htok.out, l4, _, ⟨Look.heap ((h1.setTe (K4.sp - K4.lcl)).setCh (chAt T (q' + n))) rfl, ⟨h2.src, h2.ev, h2.mode, h2.ws, h2.idr, h2.pk⟩, ?_, ?_⟩, rfl, rfl⟩
            · exact ((h3.setCell (p := ⟨b, 1037, none⟩) hBb _).setCell (p := ⟨b, 1038, none⟩) hBb _).drew
            · exact (h4.setB.setB).heap rfl

end Go.Proofs.YtfmkfnochjeleaaGreatDoor
