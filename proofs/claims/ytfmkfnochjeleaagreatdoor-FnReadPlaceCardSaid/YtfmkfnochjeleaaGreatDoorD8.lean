import Derived.Test.YtfmkfnochjeleaaGreatDoorD6
import Derived.Test.YtfmkfnochjeleaaGreatDoorD7
import Derived.Test.YtfmkfnochjeleaaGreatDoorC3
import Derived.Test.YtfmkfnochjeleaaGreatDoorB3
namespace Go.Proofs.YtfmkfnochjeleaaGreatDoor
open Go.RowKit

theorem zero129 : Tryz.zeroCells129 = (List.replicate 800 (Value.int .u8 0) ++ ([.int .i64 0, .int .i64 0, .bool false, .bool false] : List Value)).toArray := by kernel_rfl
theorem cell_new (w : World) (Z : Array Value) (t : TypeId) (i : Nat) : (w.alloc (Obj.cells Z t)).cell? ⟨w.heap.size, i, none⟩ = Z[i]? := by simp [go_sem]
theorem fz_new (w : World) (Z : Array Value) (t : TypeId) (i : Nat) : (w.alloc (Obj.cells Z t)).frozen? ⟨w.heap.size, i, none⟩ = false := by simp [go_sem]
theorem zero129_low (i : Nat) (hi : i < 800) : Tryz.zeroCells129[i]? = some (.int .u8 0) := by
  rw [zero129, List.getElem?_toArray, List.getElem?_append_left (by rw [List.length_replicate]; exact hi), List.getElem?_replicate, if_pos hi]
theorem zero129_high (i : Nat) : Tryz.zeroCells129[800 + i]? = ([.int .i64 0, .int .i64 0, .bool false, .bool false] : List Value)[i]? := by
  rw [zero129, List.getElem?_toArray, List.getElem?_append_right (by rw [List.length_replicate]; omega), List.length_replicate, show 800 + i - 800 = i by omega]
theorem dec_new (w : World) : DecAt (w.alloc (Obj.cells Tryz.zeroCells129 129)) w.heap.size false ⟨fun _ => 0, 0, 0, false⟩ where
  d i hi := (cell_new w _ _ i).trans (zero129_low i hi)
  nd := (cell_new w _ _ 800).trans (zero129_high 0)
  dp := (cell_new w _ _ 801).trans (zero129_high 1)
  neg := (cell_new w _ _ 802).trans (zero129_high 2)
  tr := (cell_new w _ _ 803).trans (zero129_high 3)
  fz o := fz_new w _ _ o

/-- the tables, all of them under block B -/
structure Tabs (B : Nat) (w : World) : Prop where
  size : B ≤ w.heap.size
  globs : 18 < B
  opt : w.cell? ⟨5, 0, none⟩ = some (.bool true)
  pow : PowTab w
  info : InfoTab w
  fp : ∃ a o, w.cell? ⟨9, 0, none⟩ = some (.slice (some ⟨a, o, none⟩) 23 23) ∧ a < B ∧ ∀ i, i < 23 → w.cell? ⟨a, o + i, none⟩ = some (.float .f64 (fp i))
  sh : ShTab B w
  cheat : CheatTab B w

theorem Tabs.below {B b : Nat} {w w' : World} (h : Tabs B w) (hb : Below b w w') (hB : B ≤ b) : Tabs B w' where
  size := Nat.le_trans h.size hb.size
  globs := h.globs
  opt := by rw [hb.cell (show (⟨5, 0, none⟩ : Addr).block < b by have := h.globs; show 5 < b; omega)]; exact h.opt
  pow i hi := by
    have g := h.globs
    rw [hb.cell (show (⟨11, i * 2, none⟩ : Addr).block < b by show 11 < b; omega), hb.cell (show (⟨11, i * 2 + 1, none⟩ : Addr).block < b by show 11 < b; omega)]
    exact h.pow i hi
  info := h.info.below hb (by have := h.globs; omega)
  fp := by
    obtain ⟨a, o, h1, h2, h3⟩ := h.fp
    have g := h.globs
    refine ⟨a, o, ?_, h2, fun i hi => ?_⟩
    · rw [hb.cell (show (⟨9, 0, none⟩ : Addr).block < b by show 9 < b; omega)]; exact h1
    · rw [hb.cell (show (⟨a, o + i, none⟩ : Addr).block < b by show a < b; omega)]; exact h3 i hi
  sh := h.sh.below hb hB
  cheat := h.cheat.below hb hB
theorem Tabs.fpTab {B : Nat} {w : World} (h : Tabs B w) : FpTab w := by
  obtain ⟨a, o, h1, h2, h3⟩ := h.fp
  exact ⟨a, o, h1, Nat.lt_of_lt_of_le h2 h.size, h3⟩

theorem fbPack_le (m : Nat) (e : Int) (he : e + 1023 < 2047) : fbPack m e < Fl.I := by
  unfold fbPack
  have h1 : m % 4503599627370496 < 4503599627370496 := Nat.mod_lt _ (by decide)
  have h2 : Fl.I = 9218868437227405312 := rfl
  rw [h2]
  have h3 : (e + 1023).toNat ≤ 2046 := by omega
  have h4 := Nat.mul_le_mul_right 4503599627370496 h3
  split <;> omega
theorem fbEnd_le (m : Nat) (e : Int) (h : ¬ 2047 ≤ e + 1023) : fbEnd m e ≤ Fl.I := by
  unfold fbEnd
  split
  · split
    · exact Nat.le_refl _
    · exact Nat.le_of_lt (fbPack_le _ _ (by omega))
  · exact Nat.le_of_lt (fbPack_le _ _ (by omega))
theorem fbits_le (S : DS) : fbits S ≤ Fl.I := by
  unfold fbits
  by_cases h1 : 310 < S.dp
  · rw [if_pos h1]; exact Nat.le_refl _
  · rw [if_neg h1]
    by_cases h2 : S.dp < -330
    · rw [if_pos h2]; exact Nat.zero_le _
    · rw [if_neg h2]
      simp only
      generalize (if (fb2 4000 (fb1 4000 S 0).1 (fb1 4000 S 0).2).2 - 1 < -1022 then (-1022 : Int) else (fb2 4000 (fb1 4000 S 0).1 (fb1 4000 S 0).2).2 - 1) = e
      by_cases h : 2047 ≤ e + 1023
      · rw [if_pos h]; exact Nat.le_refl _
      · rw [if_neg h]; exact fbEnd_le _ _ h

def feq (x y : Nat) : Bool := FloatKind.f64.format.order (Fl.sg false x) (Fl.sg false y) == some .eq
theorem feq_sg (s : Bool) {x y : Nat} (hx : x ≤ Fl.I) (hy : y ≤ Fl.I) : (FloatKind.f64.format.order (Fl.sg s x) (Fl.sg s y) == some .eq) = feq x y := by
  cases s
  · rfl
  · exact Fl.order_eq_sg hx hy

/-- the magnitude that strconv.ParseFloat reads -/
def PF (l : List UInt8) : Nat :=
  if (rfM l).m = 0 then 0 else if 310 < rfExp l then Fl.I else if rfExp l < -345 then 0 else
  if (rfM l).tr = false then (match ex64 (rfM l).m (rfExp l) with | some y => y | none => pf64 (rfM l).m (rfExp l))
  else if feq (pf64 (rfM l).m (rfExp l)) (pf64 ((rfM l).m + 1) (rfExp l)) then pf64 (rfM l).m (rfExp l) else fbits (decS l)

theorem W_or0 (s : Bool) : bits .or .u64 ((sgnW s : Nat) : Int) 0 = ((sgnW s : Nat) : Int) := by cases s <;> decide
theorem W_orI (s : Bool) : bits .or .u64 ((sgnW s : Nat) : Int) 9218868437227405312 = ((sgnW s + 9218868437227405312 : Nat) : Int) := by cases s <;> decide
theorem W_shl (s : Bool) : IntKind.u64.wrap ((s.toNat : Int) * 9223372036854775808) = ((sgnW s : Nat) : Int) := by cases s <;> decide

theorem PF_le (l : List UInt8) : PF l ≤ Fl.I := by
  have hlt : (rfM l).m < 10000000000000000000 := by
    have hcls : ∀ c ∈ l.take (mant l), dg c = true ∨ nb c = 46 := fun c hc => by
      obtain ⟨i, hi, hg⟩ := mem_take_get hc
      exact mant_get l i c hi hg
    exact (mfold_ok _ hcls).lt
  unfold PF
  split
  · exact Nat.zero_le _
  · split
    · exact Nat.le_refl _
    · split
      · exact Nat.zero_le _
      · split
        · split
          · rename_i y hy; exact Nat.le_of_lt (ex64_fin hy)
          · exact pf64_le _ _ (by omega) (by omega) (by omega) (by omega)
        · split
          · exact pf64_le _ _ (by omega) (by omega) (by omega) (by omega)
          · exact fbits_le _

theorem expv_le {l : List UInt8} (h : IsDec l) : -99999 ≤ expv (l.drop (mant l)) ∧ expv (l.drop (mant l)) ≤ 99999 := by
  have hs := shape_of h
  cases hd : l.drop (mant l) with
  | nil => exact ⟨by decide, by decide⟩
  | cons e r =>
    obtain ⟨h1, d, r', hr, hor⟩ := hs.fin e r hd
    subst hr
    show -99999 ≤ (if nb d == 43 then ((efold r' : Nat) : Int) else if nb d == 45 then -((efold r' : Nat) : Int) else ((efold (d :: r') : Nat) : Int)) ∧ _
    show -99999 ≤ (if nb d == 43 then ((efold r' : Nat) : Int) else if nb d == 45 then -((efold r' : Nat) : Int) else ((efold (d :: r') : Nat) : Int)) ∧ (if nb d == 43 then ((efold r' : Nat) : Int) else if nb d == 45 then -((efold r' : Nat) : Int) else ((efold (d :: r') : Nat) : Int)) ≤ 99999
    rcases hor with ⟨h2, _, h3⟩ | ⟨h2, h3⟩
    · have := efold_le r' h3
      split
      · omega
      · split
        · omega
        · rename_i h4 h5
          simp only [Bool.or_eq_true] at h2
          rcases h2 with h2 | h2
          · exact absurd h2 h4
          · exact absurd h2 h5
    · have := efold_le (d :: r') h3
      simp only [Bool.or_eq_false_iff] at h2
      rw [if_neg (by rw [h2.1]; decide), if_neg (by rw [h2.2]; decide)]
      omega
theorem decS_ok {l : List UInt8} (h : IsDec l) (hs : l.length ≤ 2001) (hm : (rfM l).m ≠ 0) : DOK (decS l) ∧ -150000 ≤ (decS l).dp ∧ (decS l).dp ≤ 150000 := by
  have hcls : ∀ c ∈ l.take (mant l), dg c = true ∨ nb c = 46 := fun c hc => by
    obtain ⟨i, hi, hg⟩ := mem_take_get hc
    exact mant_get l i c hi hg
  have hk := mfold_ok _ hcls
  have hr := dfold_rel _ hcls
  have he := expv_le h
  have hle : (l.take (mant l)).length ≤ 2001 := by rw [List.length_take]; omega
  have hnm : 0 < (mfold (l.take (mant l))).nm := by
    refine Nat.pos_of_ne_zero fun h0 => ?_
    have h1 := hk.m
    rw [h0] at h1
    exact hm (by unfold rfM; omega)
  have hnd := hk.nmnd
  have hn1 := hr.nd
  have hn8 : (dfold (l.take (mant l))).nd ≤ 800 := by rw [hn1]; split <;> omega
  have hnp : 0 < (dfold (l.take (mant l))).nd := by rw [hn1]; split <;> omega
  obtain ⟨hd1, hd2⟩ := hr.dp
  refine ⟨⟨hn8, hnp, hr.dig, hr.first hnp⟩, ?_, ?_⟩
  · show -150000 ≤ (if (dfold (l.take (mant l))).dot then (dfold (l.take (mant l))).dp else ((dfold (l.take (mant l))).nd : Int)) + expv (l.drop (mant l))
    split <;> omega
  · show (if (dfold (l.take (mant l))).dot then (dfold (l.take (mant l))).dp else ((dfold (l.take (mant l))).nd : Int)) + expv (l.drop (mant l)) ≤ 150000
    split <;> omega

set_option maxHeartbeats 4000000 in
set_option maxRecDepth 100000 in
theorem atof_any (s : ByteArray) (neg : Bool) (i0 : Nat) (w : World) (h : NumText s neg i0) (B : Nat) (hT : Tabs B w) :
    Calls Tryz.prog 40 #[.string s] w fun e w' => e = .returned (.tuple #[.float .f64 (Fl.sg neg (PF (s.data.toList.drop i0))), .int .i64 s.size, errOf (PF (s.data.toList.drop i0))]) ∧ Below w.heap.size w w' := by
  have hnt := Lib.hid h
  obtain ⟨l, hl⟩ : ∃ l, l = s.data.toList.drop i0 := ⟨_, rfl⟩
  obtain ⟨R, hR⟩ : ∃ R, R = PF l := ⟨_, rfl⟩
  have hlen : l.length ≤ 2001 := by rw [hl, List.length_drop, size_toList]; have := h.size; omega
  have hdec : IsDec l := by rw [hl]; exact h.dec
  have hmlt : (rfM l).m < 10000000000000000000 := by
    have hcls : ∀ c ∈ l.take (mant l), dg c = true ∨ nb c = 46 := fun c hc => by
      obtain ⟨i, hi, hg⟩ := mem_take_get hc
      exact mant_get l i c hi hg
    exact (mfold_ok _ hcls).lt
  have HT := Lib.hid hT
  have HDEC := Lib.hid hdec
  have HLEN := Lib.hid hlen
  obtain ⟨m, hm⟩ : ∃ m, m = (rfM l).m := ⟨_, rfl⟩
  obtain ⟨p, hp⟩ : ∃ p, p = rfExp l := ⟨_, rfl⟩
  obtain ⟨tr, htr⟩ : ∃ tr, tr = (rfM l).tr := ⟨_, rfl⟩
  rw [← hm] at hmlt
  obtain ⟨M, hM⟩ : ∃ M : Int, M = m := ⟨_, rfl⟩
  have C48 : Hid (∀ w, Calls Tryz.prog 48 #[.string s] w fun e w' => e = .returned (.tuple #[.float .f64 0, .int .i64 0, .bool false]) ∧ w = w') := fun w => special_num s neg i0 w h
  have C49 : Hid (∀ w, Calls Tryz.prog 49 #[.string s] w fun e w' => e = .returned (.tuple #[.int .u64 M, .int .i64 p, .bool neg, .bool tr, .bool false, .int .i64 s.size, .bool true]) ∧ w = w') := fun w => by
    have := readFloat_any s neg i0 w h
    unfold rfRes at this
    rw [← hl, ← hm, ← hp, ← htr, ← hM] at this
    exact this
  rw [← hl, ← hR]
  have HR : Hid (R = if m = 0 then 0 else if 310 < p then Fl.I else if p < -345 then 0 else
      if tr = false then (match ex64 m p with | some y => y | none => pf64 m p)
      else if feq (pf64 m p) (pf64 (m + 1) p) then pf64 m p else fbits (decS l)) := by
    show R = _
    rw [hR, hm, hp, htr]
    rfl
  have HRL : Hid (R ≤ Fl.I) := by show _ ≤ _; rw [hR]; exact PF_le l
  have HM := Lib.hid hM
  have Hmlt := Lib.hid hmlt
  have hM0 : 0 ≤ M := by omega
  have hM1 : M ≤ 9999999999999999999 := by omega
  have HL := Lib.hid hl
  have Hm := Lib.hid hm
  have C57 := b64_any neg
  have W1 := W_shl neg
  have W2 := W_or0 neg
  have W3 := W_orI neg
  obtain ⟨nz, hnz⟩ : ∃ nz : Int, nz = neg.toNat := ⟨_, rfl⟩
  obtain ⟨W, hW⟩ : ∃ W : Int, W = ((sgnW neg : Nat) : Int) := ⟨_, rfl⟩
  have HW := Lib.hid hW
  rw [← hW] at W1 W2 W3
  rw [← hnz] at W1
  replace W3 : bits .or .u64 W 9218868437227405312 = W + 9218868437227405312 := by rw [W3, hW]; rfl
  have C57' : Hid (∀ w, Calls Tryz.prog 57 #[.bool neg] w fun e w' => e = .returned (.int .u64 nz) ∧ w = w') := fun w => by rw [hnz]; exact C57 w
  have C58 := call58
  have hopt := hT.opt
  clear hR hm hp htr hM hl hnz hW C57 h hT hdec hlen hmlt
  have hret : ∀ r : Nat, R = r → ∀ (x : Nat) (v : Value), x = Fl.sg neg r → v = errOf r → Hid (Ending.returned (.tuple #[.float .f64 x, .int .i64 s.size, v]) = Ending.returned (.tuple #[.float .f64 (Fl.sg neg R), .int .i64 s.size, errOf R])) := by
    intro r h x v h1 h2
    show _ = _
    rw [h, h1, h2]
  have Hret := Lib.hid hret
  clear hret
  have hWn : Hid (∀ r : Nat, (W + r).toNat = Fl.sg neg r) := fun r => by
    rw [HW.out, sg_sgnW]
    show (((sgnW neg : Nat) : Int) + (r : Int)).toNat = _
    omega
  have hWn0 : Hid (W.toNat = Fl.sg neg 0) := by
    show _ = _
    rw [HW.out, sg_sgnW]; omega
  go_enter Tryz.func40, Tryz.ntmps40
  go_upto_region 12 with first | (go_at_call 48; refine (C48.out _).mono ?_; rintro e w' ⟨rfl, rfl⟩) | (go_at_call 49; refine (C49.out _).mono ?_; rintro e w' ⟨rfl, rfl⟩) | (go_at_call 57; refine (C57'.out _).mono ?_; rintro e w' ⟨rfl, rfl⟩)
  clear C48 C49 C57'
  by_cases hm0 : M = 0
  · subst hm0
    have hx : Hid (R = 0) := by show R = 0; rw [HR.out, if_pos (by have := HM.out; omega)]
    go_wp2_with fail
    go_ret3
    exact ⟨(Hret.out 0 hx.out _ _ hWn0.out rfl).out, Below.refl _ _⟩
  · have hmb : (M == 0) = false := by rw [beq_eq_false_iff_ne]; exact hm0
    have hm0' : m ≠ 0 := by have := HM.out; omega
    have Hm0 := Lib.hid hm0'
    clear hm0'
    by_cases hp1 : 310 < p
    · have hx : Hid (R = Fl.I) := by show R = _; rw [HR.out, if_neg Hm0.out, if_pos hp1]
      go_wp2_with fail
      go_ret3
      exact ⟨(Hret.out Fl.I hx.out _ _ (hWn.out _) rfl).out, Below.refl _ _⟩
    · by_cases hp2 : p < -345
      · have hx : Hid (R = 0) := by show R = _; rw [HR.out, if_neg Hm0.out, if_neg hp1, if_pos hp2]
        go_wp2_with fail
        go_ret3
        exact ⟨(Hret.out 0 hx.out _ _ hWn0.out rfl).out, Below.refl _ _⟩
      · have HR2 : Hid (R = if tr = false then (match ex64 m p with | some y => y | none => pf64 m p)
            else if feq (pf64 m p) (pf64 (m + 1) p) then pf64 m p else fbits (decS l)) := by
          show R = _
          rw [HR.out, if_neg Hm0.out, if_neg hp1, if_neg hp2]
        have hT := HT.out
        have h11 : 11 < w.heap.size := by have := hT.size; have := hT.globs; omega
        have C60 : Hid (∀ w, Tabs B w → Calls Tryz.prog 60 #[.int .u64 M, .int .i64 p, .int .u64 W] w fun r w' => r = .returned (.tuple #[.float .f64 (Fl.sg neg (pf64 m p)), errOf (pf64 m p)]) ∧ Below w.heap.size w w') := by
          intro w hT
          have := parse64_any m p neg w (by have := Hm0.out; omega) (by have := Hmlt.out; omega) (by omega) (by omega) hT.pow (by have := hT.size; have := hT.globs; omega)
          rw [← HM.out, ← HW.out] at this
          exact this
        have C60b : Hid (∀ w, Tabs B w → Calls Tryz.prog 60 #[.int .u64 (M + 1), .int .i64 p, .int .u64 W] w fun r w' => r = .returned (.tuple #[.float .f64 (Fl.sg neg (pf64 (m + 1) p)), errOf (pf64 (m + 1) p)]) ∧ Below w.heap.size w w') := by
          intro w hT
          have := parse64_any (m + 1) p neg w (by omega) (by have := Hmlt.out; omega) (by omega) (by omega) hT.pow (by have := hT.size; have := hT.globs; omega)
          have e : ((m + 1 : Nat) : Int) = M + 1 := by rw [HM.out]; rfl
          rw [e, ← HW.out] at this
          exact this
        have b1 : Hid (pf64 m p ≤ Fl.I) := pf64_le _ _ (by have := Hm0.out; omega) (by have := Hmlt.out; omega) (by omega) (by omega)
        have b2 : Hid (pf64 (m + 1) p ≤ Fl.I) := pf64_le _ _ (by omega) (by have := Hmlt.out; omega) (by omega) (by omega)
        clear hT h11
        cases tr
        · have C59 : Hid (∀ w, Tabs B w → Calls Tryz.prog 59 #[.int .u64 M, .int .i64 p, .bool neg] w fun r w' => (∃ x, r = .returned (.tuple #[.float .f64 x, .bool (ex64 m p).isSome]) ∧ (∀ y, ex64 m p = some y → x = Fl.sg neg y)) ∧ w = w') := by
            intro w hT
            rw [HM.out]
            exact exact_any m p neg w (by have := Hmlt.out; omega) (by omega) (by omega) hT.info hT.fpTab
          cases hex : ex64 m p with
          | some y =>
            have C59' : Hid (∀ w, Tabs B w → Calls Tryz.prog 59 #[.int .u64 M, .int .i64 p, .bool neg] w fun r w' => r = .returned (.tuple #[.float .f64 (Fl.sg neg y), .bool true]) ∧ w = w') := by
              intro w hT
              refine (C59.out w hT).mono ?_
              rintro r w' ⟨⟨x, rfl, hx⟩, rfl⟩
              rw [hx y hex, hex]
              exact ⟨rfl, rfl⟩
            clear C59
            have hx : Hid (R = y) := by
              show R = _
              rw [HR2.out, if_pos rfl, hex]
            have hfin := ex64_fin hex
            have herr : Hid (errOf y = Value.nilIface) := by show errOf y = _; unfold errOf; rw [if_neg (by omega)]
            clear hfin
            clear hex
            go_wp2_with (go_at_call 59; refine (C59'.out _ HT.out).mono ?_; rintro e w' ⟨rfl, rfl⟩)
            go_ret3
            exact ⟨(Hret.out y hx.out _ Value.nilIface rfl herr.out.symm).out, Below.refl _ _⟩
          | none =>
            rw [hex] at C59
            have hx : Hid (R = pf64 m p) := by
              show R = _
              rw [HR2.out, if_pos rfl, hex]
            clear hex
            go_wp2_with first
              | (go_at_call 59; refine (C59.out _ HT.out).mono ?_; rintro e w' ⟨⟨xv, rfl, hxv⟩, rfl⟩; clear hxv)
              | (go_at_call 60; refine (C60.out _ HT.out).mono ?_; rintro e w1 ⟨rfl, q1⟩)
            go_ret3
            exact ⟨(Hret.out _ hx.out _ _ rfl rfl).out, q1⟩
        · have hfe := feq_sg neg b1.out b2.out
          go_upto_region 25 with (go_at_call 60; refine (C60.out _ HT.out).mono ?_; rintro e w1 ⟨rfl, q1⟩)
          have HT1 := Lib.hid (HT.out.below q1 (HT.out.size))
          obtain ⟨DD, hDD⟩ : ∃ DD, DD = decS l := ⟨_, rfl⟩
          obtain ⟨hdk, hdp1, hdp2⟩ := decS_ok HDEC.out HLEN.out (by rw [← Hm.out]; exact Hm0.out)
          have HDD := Lib.hid hDD
          have HNT := Lib.hid hnt.out
          rw [← hDD] at hdk hdp1 hdp2 HR2
          clear hDD
          obtain ⟨u3, hu3⟩ : ∃ u3, u3 = fbits DD := ⟨_, rfl⟩
          rw [← hu3] at HR2
          have HU3 := Lib.hid hu3
          have HDK := Lib.hid hdk
          have HDP := Lib.hid (And.intro hdp1 hdp2)
          clear hu3 hdk hdp1 hdp2
          generalize hu1 : pf64 m p = u1 at *
          generalize hu2 : pf64 (m + 1) p = u2 at *
          clear hu1 hu2
          go_upto_if 121 with (go_at_call 60; refine (C60b.out _ HT1.out).mono ?_; rintro e w2 ⟨rfl, q2⟩)
          have HT2 := Lib.hid (HT1.out.below q2 (HT1.out.size))
          have hq12 := Lib.hid (q1.trans (q2.mono q1.size))
          cases hfq : feq u1 u2
          · have hx : Hid (R = u3) := by
              show R = _
              rw [HR2.out, if_neg (by decide), if_neg (by rw [hfq]; decide)]
            go_upto_region 29 with fail
            obtain ⟨w3, hw3⟩ : ∃ w3, w3 = w2.alloc (Obj.cells Tryz.zeroCells129 129) := ⟨_, rfl⟩
            have hb3 := Lib.hid (show Below w2.heap.size w2 w3 by rw [hw3]; exact (Below.refl _ _).alloc (Nat.le_refl _) _)
            have HT3 := Lib.hid (HT2.out.below hb3.out HT2.out.size)
            have hd3 := Lib.hid (show DecAt w3 w2.heap.size false ⟨fun _ => 0, 0, 0, false⟩ by rw [hw3]; exact dec_new w2)
            rw [← hw3]
            clear hw3
            have C55 := Lib.hid (set_any w2.heap.size s neg i0 w3 HNT.out hd3.out)
            rw [← HL.out, ← HDD.out] at C55
            have hslice : s.extract 0 s.size = s := by apply ByteArray.ext; simp
            go_upto_region 31 with (go_at_call 55; refine C55.out.mono ?_; rintro e w4 ⟨rfl, q4, q5⟩)
            have HT4 := Lib.hid (HT3.out.below q5 HT2.out.size)
            have C56 : Hid (Calls Tryz.prog 56 #[.pointer (some ⟨w2.heap.size, 0, none⟩), .pointer (some ⟨6, 0, none⟩)] w4 fun e w' => e = .returned (.tuple #[.int .u64 (W + u3), .bool (decide (u3 = Fl.I))]) ∧ Below w2.heap.size w4 w') := by
              have := bits_any w2.heap.size neg DD w4 q4 HDK.out HDP.out.1 HDP.out.2 B HT4.out.cheat HT4.out.sh HT4.out.info HT2.out.size
              rw [← HU3.out] at this
              have e : ((sgnW neg + u3 : Nat) : Int) = W + u3 := by rw [HW.out]; rfl
              rw [e] at this
              exact this
            have hbel := Lib.hid ((hq12.out.trans (hb3.out.mono (Nat.le_trans q1.size q2.size))).trans (q5.mono (Nat.le_trans q1.size q2.size)))
            by_cases h3 : u3 = Fl.I
            · have hd : decide (u3 = Fl.I) = true := decide_eq_true h3
              rw [hd] at C56
              have H3 := Lib.hid h3
              clear h3 hd
              go_wp2_with (go_at_call 56; refine C56.out.mono ?_; rintro e w5 ⟨rfl, q6⟩)
              go_ret3
              exact ⟨(Hret.out _ hx.out _ _ (hWn.out _) (by rw [H3.out]; rfl)).out, hbel.out.trans (q6.mono (Nat.le_trans q1.size q2.size))⟩
            · have hd : decide (u3 = Fl.I) = false := decide_eq_false h3
              rw [hd] at C56
              have herr : Hid (errOf u3 = Value.nilIface) := by
                show errOf u3 = _
                unfold errOf
                exact if_neg h3
              clear h3 hd
              go_wp2_with (go_at_call 56; refine C56.out.mono ?_; rintro e w5 ⟨rfl, q6⟩)
              go_ret3
              exact ⟨(Hret.out _ hx.out _ Value.nilIface (hWn.out _) herr.out.symm).out, hbel.out.trans (q6.mono (Nat.le_trans q1.size q2.size))⟩
          · have hx : Hid (R = u1) := by
              show R = _
              rw [HR2.out, if_neg (by decide), if_pos hfq]
            go_wp2_with fail
            go_ret3
            exact ⟨(Hret.out _ hx.out _ _ rfl rfl).out, hq12.out⟩

end Go.Proofs.YtfmkfnochjeleaaGreatDoor
