import Derived.Test.YtfmkfnochjeleaaGreatDoorB1
import Derived.Deep.CutBlock
import Derived.Deep.CutRange
namespace Go.Proofs.YtfmkfnochjeleaaGreatDoor
open Go.RowKit

/-- a number's text: a sign perhaps, and a decimal -/
structure NumText (s : ByteArray) (neg : Bool) (i0 : Nat) : Prop where
  size : s.size ≤ 2001
  dec : IsDec (s.data.toList.drop i0)
  sign : (neg = false ∧ i0 = 0) ∨ (neg = true ∧ i0 = 1 ∧ ∃ h : 0 < s.size, nb s[0] = 45)

def rfRes (s : ByteArray) (neg : Bool) (i0 : Nat) : Value :=
  .tuple #[.int .u64 (rfM (s.data.toList.drop i0)).m, .int .i64 (rfExp (s.data.toList.drop i0)), .bool neg, .bool (rfM (s.data.toList.drop i0)).tr, .bool false, .int .i64 s.size, .bool true]

theorem dec_first {l : List UInt8} (h : IsDec l) : ∃ c r, l = c :: r ∧ (dg c = true ∨ nb c = 46) := by
  have hs := shape_of h
  cases l with
  | nil => exact absurd rfl h.2
  | cons c r => exact ⟨c, r, rfl, hs.cls 0 (by simp) (by have := hs.pos; omega)⟩

theorem mem_drop_le {l : List UInt8} {a q : Nat} {x : UInt8} (h : a ≤ q) (hx : x ∈ l.drop q) : x ∈ l.drop a := by
  have e : l.drop q = (l.drop a).drop (q - a) := by rw [List.drop_drop, show a + (q - a) = q by omega]
  rw [e] at hx
  exact List.mem_of_mem_drop hx
theorem dec_class {l : List UInt8} (h : IsDec l) (i : Nat) (c : UInt8) (hc : l[i]? = some c) : dg c = true ∨ nb c = 46 ∨ nb c = 101 ∨ nb c = 69 ∨ nb c = 43 ∨ nb c = 45 := by
  have hs := shape_of h
  by_cases hi : i < mant l
  · rcases mant_get l i c hi hc with h | h
    · exact .inl h
    · exact .inr (.inl h)
  · have hil := (List.getElem?_eq_some_iff.1 hc).1
    have hg : (l.drop (mant l))[i - mant l]? = some c := by rw [List.getElem?_drop, show mant l + (i - mant l) = i by omega]; exact hc
    cases hd : l.drop (mant l) with
    | nil => rw [hd] at hg; simp at hg
    | cons e r =>
      obtain ⟨h1, d, r', hr, hor⟩ := hs.fin e r hd
      rw [hd] at hg
      cases hq : i - mant l with
      | zero =>
        rw [hq] at hg; simp at hg; subst hg
        simp only [Bool.or_eq_true, beq_iff_eq] at h1
        rcases h1 with h1 | h1 <;> simp [h1]
      | succ q =>
        rw [hq] at hg
        have hg' : r[q]? = some c := by simpa using hg
        rcases hor with ⟨h2, _, h3⟩ | ⟨_, h3⟩
        · rw [hr] at hg'
          cases q with
          | zero =>
            simp at hg'; subst hg'
            simp only [Bool.or_eq_true, beq_iff_eq] at h2
            rcases h2 with h2 | h2 <;> simp [h2]
          | succ q =>
            have : r'[q]? = some c := by simpa using hg'
            exact .inl (h3 c (List.mem_iff_getElem?.2 ⟨q, this⟩))
        · exact .inl (h3 c (List.mem_iff_getElem?.2 ⟨q, hg'⟩))

set_option maxRecDepth 100000 in
set_option maxHeartbeats 16000000 in
theorem readFloat_any (s : ByteArray) (neg : Bool) (i0 : Nat) (w : World) (h : NumText s neg i0) :
    Calls Tryz.prog 49 #[.string s] w fun e w' => e = .returned (rfRes s neg i0) ∧ w = w' := by
  obtain ⟨hsz, hdec, hsign⟩ := h
  have hsh := shape_of hdec
  obtain ⟨l, hl⟩ : ∃ l, l = s.data.toList.drop i0 := ⟨_, rfl⟩
  rw [← hl] at hdec hsh
  have hll : l.length = s.size - i0 := by rw [hl]; simp
  have hi0s : i0 < s.size := by have := hsh.pos; have := hsh.le; omega
  have HSH := Lib.hid hsh
  have HL := Lib.hid hl
  have HDEC := Lib.hid hdec
  have HLL := Lib.hid hll
  clear hsh hdec hl hll
  have hfirst := dec_first HDEC.out
  obtain ⟨c, r, hcr, hc⟩ := hfirst
  have hget : (s.data.toList.drop i0) = s[i0] :: s.data.toList.drop (i0 + 1) := drop_cons_of hi0s
  rw [← HL.out, hcr] at hget
  have hce : c = s[i0] := (List.cons.inj hget).1
  rw [hce] at hc
  clear hget hce hcr c r
  have n43 : (nb s[i0] == 43) = false := by
    simp only [dg, decide_eq_true_eq, nb] at hc; simp only [nb, beq_eq_false_iff_ne, ne_eq]; omega
  have n45 : (nb s[i0] == 45) = false := by
    simp only [dg, decide_eq_true_eq, nb] at hc; simp only [nb, beq_eq_false_iff_ne, ne_eq]; omega
  clear hc
  go_enter Tryz.func49, Tryz.ntmps49
  go_wp2_with fail
  go_step3
  have hne : ¬ s = ByteArray.empty := by intro h; subst h; simp at hi0s
  have hx : Hid (∀ h : i0 + 1 < s.size, (lowr s[i0 + 1] == 120) = false) := fun h => by
    rw [(lowr_ne _).1]
    have hsh := HSH.out
    have hll := HLL.out
    have hg : l[1]? = some s[i0 + 1] := by rw [HL.out, List.getElem?_drop, List.getElem?_eq_getElem (by simpa using h)]; rfl
    have hdec := dec_class HDEC.out 1 _ hg
    simp only [dg, decide_eq_true_eq, nb] at hdec
    simp only [nb, Bool.or_eq_false_iff, beq_eq_false_iff_ne, ne_eq]
    omega
  have h0 : 0 < s.size := by omega
  have HSG := Lib.hid hsign
  clear hsign
  go_upto_block 0 with fail
  go_cut [4, 7] from 28 to 35 (fun v i wx => v = .bool neg ∧ i = .int .i64 i0 ∧ wx = w)
  case first =>
    rcases HSG.out with ⟨rfl, rfl⟩ | ⟨rfl, rfl, hs0, hs45⟩
    · go_wp2_with fail
      go_meet
      exact ⟨rfl, rfl, rfl⟩
    · have h45b := nb_eq hs45
      have h43b : (nb s[0] == 43) = false := by rw [hs45]; rfl
      clear hs45
      go_wp2_with fail
      go_meet
      exact ⟨rfl, rfl, rfl⟩
  case rest =>
    obtain ⟨rfl, rfl, hwc⟩ := hcut
    have hwc2 := hwc.symm
    clear hwc
    subst hwc2
    have hi01 : i0 ≤ 1 := by rcases HSG.out with ⟨_, h⟩ | ⟨_, h, _⟩ <;> omega
    go_upto_region 12 with fail
    go_cut [54] from 36 to 53 (fun v wx => v = .bool false ∧ wx = w)
    case first =>
      by_cases h2 : i0 + 1 < s.size
      · have hx2 := hx.out h2
        cases h48 : (nb s[i0] == 48) <;> by_cases h3 : i0 + 2 < s.size
        all_goals
          go_wp2_with (go_at_call 80; refine (lower_any _ _).mono ?_; rintro e w' ⟨rfl, rfl⟩)
          go_meet
          exact ⟨rfl, rfl⟩
      · go_wp2_with fail
        go_meet
        exact ⟨rfl, rfl⟩
    case rest =>
      obtain ⟨rfl, hwc⟩ := hcut
      have hwc2 := hwc.symm
      clear hwc
      subst hwc2
      go_wp2_with fail
      go_step3
      go_wp2_with fail
      have hmant := HSH.out.le
      have hmp := HSH.out.pos
      have hllen : l.length ≤ 2001 := by have := HLL.out; omega
      obtain ⟨M, hM0⟩ : ∃ M, M = mant l := ⟨_, rfl⟩
      rw [← hM0] at hmant hmp
      have hMs : i0 + M ≤ s.size := by have := HLL.out; omega
      have HM := Lib.hid hM0
      have hgetl : Hid (∀ j (h : j < s.size), i0 ≤ j → ∃ h2 : j - i0 < l.length, l[j - i0] = s[j]) := fun j h hj => by
        have h2 : j - i0 < l.length := by have := HLL.out; omega
        refine ⟨h2, ?_⟩
        have h3 : l[j - i0]? = some s[j] := by
          rw [HL.out, List.getElem?_drop, show i0 + (j - i0) = j by omega, List.getElem?_eq_getElem (by simpa using h)]; rfl
        rw [List.getElem?_eq_getElem h2] at h3
        exact Option.some.inj h3
      clear hM0 hx n43 n45 hne
      go_loop [2, 5, 7, 9, 13, 14, 15, 16, 17, 18] (fun vm vt vi vu vdot vsd vnd vnm vdp _ => ∃ (j : Nat) (x : MS), i0 ≤ j ∧ j ≤ i0 + M ∧ Hid (x = mfold (l.take (j - i0))) ∧ vm = .int .u64 x.m ∧ vt = .bool x.tr ∧ vi = .int .i64 j ∧ vu = .bool false ∧ vdot = .bool x.dot ∧ vsd = .bool x.sd ∧ vnd = .int .i64 x.nd ∧ vnm = .int .i64 x.nm ∧ vdp = .int .i64 x.dp)
        (fun _ _ vi _ _ _ _ _ _ _ => s.size - (intOf vi).toNat)
      case atStart => exact ⟨i0, MS0, by omega, by omega, by show _ = _; rw [Nat.sub_self]; rfl, rfl, rfl, rfl, rfl, rfl, rfl, rfl, rfl, rfl⟩
      case round =>
        obtain ⟨j, x, hij, hj, hx0, rfl, rfl, rfl, rfl, rfl, rfl, rfl, rfl, rfl⟩ := hrel
        have hcls : ∀ c ∈ l.take (j - i0), dg c = true ∨ nb c = 46 := fun c hc => by
          obtain ⟨i, hi, hg⟩ := mem_take_get hc
          exact mant_get l i c (by have := HM.out; omega) hg
        have hok := mfold_ok _ hcls
        rw [← hx0.out, List.length_take, Nat.min_eq_left (by omega)] at hok
        have hxm := hok.lt
        have hxmp := hok.m
        have hxnm := hok.nm
        have hxnd := hok.nd
        obtain ⟨hd1, hd2⟩ := hok.dp
        obtain ⟨xm, xnd, xnm, xdp, xtr, xdot, xsd⟩ := x
        simp only at hxm hxmp hxnm hxnd hd1 hd2
        have hxnd2 : xnd ≤ 2001 := by omega
        have hd3 : -2001 ≤ xdp := by omega
        have hd4 : xdp ≤ 2001 := by omega
        have HMP := Lib.hid hxmp
        clear hok hcls hxnd hd1 hd2 hxmp
        have HM19 := Lib.hid hxm
        clear hxm
        by_cases hkM : j < i0 + M
        · have hjs : j < s.size := by omega
          obtain ⟨h2, hlj⟩ := hgetl.out j hjs hij
          have hclc := HSH.out.cls (j - i0) h2 (by have := HM.out; omega)
          have hdot := HSH.out.dot (j - i0) h2 (by have := HM.out; omega)
          rw [← hx0.out, hlj] at hdot
          rw [hlj] at hclc
          have hstep : mfold (l.take (j + 1 - i0)) = mstep ⟨xm, xnd, xnm, xdp, xtr, xdot, xsd⟩ s[j] := by
            rw [show j + 1 - i0 = (j - i0) + 1 by omega, List.take_add_one, List.getElem?_eq_getElem h2, hlj]
            show mfold (l.take (j - i0) ++ [s[j]]) = _
            rw [mfold_snoc, ← hx0.out]
          have HSTEP := Lib.hid hstep
          clear hstep
          by_cases h46 : nb s[j] = 46
          · have hdf : xdot = false := hdot h46
            subst hdf
            have e46 := nb_eq h46
            have e95 : (nb s[j] == 95) = false := nb_ne (by omega)
            have HS : Hid (mfold (l.take (j + 1 - i0)) = ⟨xm, xnd, xnm, xnd, xtr, true, xsd⟩) := by
              show _ = _
              rw [HSTEP.out]; unfold mstep; rw [if_pos e46]
            clear h46 hdot hclc hlj h2
            go_wp2_with fail
            go_round
            case rel => exact ⟨j + 1, ⟨xm, xnd, xnm, xnd, xtr, true, xsd⟩, by omega, by omega, HS.out.symm, rfl, rfl, by go_num, rfl, rfl, rfl, rfl, rfl, rfl⟩
            case measure => simp [intOf]; omega
          · have e46 := nb_ne h46
            have hdg : 48 ≤ nb s[j] ∧ nb s[j] ≤ 57 := by
              rcases hclc with h | h
              · simp only [dg, decide_eq_true_eq] at h; simp only [nb]; omega
              · exact absurd h h46
            obtain ⟨g1, g2⟩ := hdg
            have e95 : (nb s[j] == 95) = false := nb_ne (by omega)
            have n46 : ¬ (nb s[j] == 46) = true := by rw [e46]; decide
            have N46 := Lib.hid n46
            clear h46 hdot hclc hlj h2 n46
            cases e48 : (nb s[j] == 48) with
            | true =>
              by_cases hnd : xnd = 0
              · have end0 : ((xnd : Int) == 0) = true := by simp; exact hnd
                have HS : Hid (mfold (l.take (j + 1 - i0)) = ⟨xm, xnd, xnm, xdp - 1, xtr, xdot, true⟩) := by
                  show _ = _
                  rw [HSTEP.out]; unfold mstep; rw [if_neg N46.out, if_pos (by simp only [e48, Bool.true_and]; simp [hnd])]
                clear hnd
                go_wp2_with fail
                go_round
                case rel => exact ⟨j + 1, ⟨xm, xnd, xnm, xdp - 1, xtr, xdot, true⟩, by omega, by omega, HS.out.symm, rfl, rfl, by go_num, rfl, rfl, rfl, rfl, rfl, rfl⟩
                case measure => simp [intOf]; omega
              · have end0 : ((xnd : Int) == 0) = false := by simp; exact hnd
                have hno : ¬ (nb s[j] == 48 && xnd == 0) = true := by rw [e48]; simp [hnd]
                have HNO := Lib.hid hno
                clear hno hnd
                by_cases hnm : xnm < 19
                · have hm18 : xm < 1000000000000000000 := by
                    have h1 := HMP.out
                    have h2 := Nat.pow_le_pow_right (show 0 < 10 by decide) (show xnm ≤ 18 by omega)
                    have e : (10 : Nat) ^ 18 = 1000000000000000000 := by decide
                    omega
                  have HS : Hid (mfold (l.take (j + 1 - i0)) = ⟨xm * 10 + (s[j].toNat - 48), xnd + 1, xnm + 1, xdp, xtr, xdot, true⟩) := by
                    show _ = _
                    rw [HSTEP.out]; unfold mstep; rw [if_neg N46.out, if_neg HNO.out, if_pos hnm]
                  go_wp2_with fail
                  go_round
                  case rel =>
                    refine ⟨j + 1, ⟨xm * 10 + (s[j].toNat - 48), xnd + 1, xnm + 1, xdp, xtr, xdot, true⟩, by omega, by omega, HS.out.symm, ?_, rfl, by go_num, rfl, rfl, rfl, by go_num, by go_num, rfl⟩
                    congr 1
                    simp only [nb] at g1 g2 ⊢
                    omega
                  case measure => simp [intOf]; omega
                · have HS : Hid (mfold (l.take (j + 1 - i0)) = ⟨xm, xnd + 1, xnm, xdp, xtr, xdot, true⟩) := by
                    show _ = _
                    rw [HSTEP.out]; unfold mstep; rw [if_neg N46.out, if_neg HNO.out, if_neg hnm, if_pos e48]
                  have en48 : (nb s[j] != 48) = false := by simp [bne, e48]
                  go_wp2_with fail
                  go_round
                  case rel => exact ⟨j + 1, ⟨xm, xnd + 1, xnm, xdp, xtr, xdot, true⟩, by omega, by omega, HS.out.symm, rfl, rfl, by go_num, rfl, rfl, rfl, by go_num, rfl, rfl⟩
                  case measure => simp [intOf]; omega
            | false =>
              have hno : ¬ (nb s[j] == 48 && xnd == 0) = true := by rw [e48]; simp
              have HNO := Lib.hid hno
              clear hno
              by_cases hnm : xnm < 19
              · have hm18 : xm < 1000000000000000000 := by
                  have h1 := HMP.out
                  have h2 := Nat.pow_le_pow_right (show 0 < 10 by decide) (show xnm ≤ 18 by omega)
                  have e : (10 : Nat) ^ 18 = 1000000000000000000 := by decide
                  omega
                have HS : Hid (mfold (l.take (j + 1 - i0)) = ⟨xm * 10 + (s[j].toNat - 48), xnd + 1, xnm + 1, xdp, xtr, xdot, true⟩) := by
                  show _ = _
                  rw [HSTEP.out]; unfold mstep; rw [if_neg N46.out, if_neg HNO.out, if_pos hnm]
                go_wp2_with fail
                go_round
                case rel =>
                  refine ⟨j + 1, ⟨xm * 10 + (s[j].toNat - 48), xnd + 1, xnm + 1, xdp, xtr, xdot, true⟩, by omega, by omega, HS.out.symm, ?_, rfl, by go_num, rfl, rfl, rfl, by go_num, by go_num, rfl⟩
                  congr 1
                  simp only [nb] at g1 g2 ⊢
                  omega
                case measure => simp [intOf]; omega
              · have HS : Hid (mfold (l.take (j + 1 - i0)) = ⟨xm, xnd + 1, xnm, xdp, true, xdot, true⟩) := by
                  show _ = _
                  rw [HSTEP.out]; unfold mstep; rw [if_neg N46.out, if_neg HNO.out, if_neg hnm, if_neg (by rw [e48]; decide)]
                have en48 : (nb s[j] != 48) = true := by simp [bne, e48]
                go_wp2_with fail
                go_round
                case rel => exact ⟨j + 1, ⟨xm, xnd + 1, xnm, xdp, true, xdot, true⟩, by omega, by omega, HS.out.symm, rfl, rfl, by go_num, rfl, rfl, rfl, by go_num, rfl, rfl⟩
                case measure => simp [intOf]; omega
        · have hje : j = i0 + M := by omega
          rw [hje, show i0 + M - i0 = M by omega] at hx0
          have hsd : xsd = true := by
            have h1 := HSH.out.sd
            rw [← HM.out, ← hx0.out] at h1
            exact h1
          subst hsd
          obtain ⟨D, hD0⟩ : ∃ D : Int, D = (if xdot then xdp else xnd) := ⟨_, rfl⟩
          have hD1 : -2001 ≤ D := by rw [hD0]; split <;> omega
          have hD2 : D ≤ 2001 := by rw [hD0]; split <;> omega
          have HRES : Hid (∀ E : Int, expv (l.drop M) = E → rfExp l = if xm = 0 then 0 else D + E - xnm) := fun E hE => by
            have h1 : rfM l = ⟨xm, xnd, xnm, xdp, xtr, xdot, true⟩ := by unfold rfM; rw [← HM.out]; exact hx0.out.symm
            unfold rfExp rfDp
            rw [h1, ← HM.out, hE, hD0]
          have HRM : Hid (rfM l = ⟨xm, xnd, xnm, xdp, xtr, xdot, true⟩) := by show _ = _; unfold rfM; rw [← HM.out]; exact hx0.out.symm
          have HDD := Lib.hid hD0
          have HJ := Lib.hid hje
          have HFIN : Hid (∀ X : Int, rfExp l = X → rfRes s neg i0 = .tuple #[.int .u64 xm, .int .i64 X, .bool neg, .bool xtr, .bool false, .int .i64 s.size, .bool true]) := fun X hX => by
            unfold rfRes
            rw [← HL.out, HRM.out, hX]
          clear hD0 hje hkM
          have hxm64 : xm < 18446744073709551615 := by have := HM19.out; omega
          have HX64 := Lib.hid hxm64
          clear hxm64
          by_cases hend : j < s.size
          · have hdr : l.drop M = s.data.toList.drop j := by rw [HL.out, List.drop_drop, HJ.out]
            have hc1 := drop_cons_of hend
            obtain ⟨hE1, d, r', hr, hor⟩ := HSH.out.fin _ _ (by rw [← HM.out, hdr, hc1])
            have hj1 : j + 1 < s.size := by
              have := congrArg List.length hr
              simp at this; omega
            have hc2 := drop_cons_of hj1
            have hd2 : d = s[j + 1] := by rw [hr] at hc2; exact (List.cons.inj hc2).1
            have hr2 : r' = s.data.toList.drop (j + 1 + 1) := by rw [hr] at hc2; exact (List.cons.inj hc2).2
            subst hd2 hr2
            have hlow : (lowr s[j] == 101) = true := by rw [(lowr_ne _).2]; exact hE1
            have c46 : (nb s[j] == 46) = false := by
              simp only [Bool.or_eq_true, beq_iff_eq] at hE1; simp only [beq_eq_false_iff_ne, ne_eq]; omega
            have key : ∃ (a : Nat) (σ : Int), a < s.size ∧ j + 1 ≤ a ∧ (σ = 1 ∨ σ = -1) ∧ (∀ x ∈ s.data.toList.drop a, dg x = true) ∧ expv (l.drop M) = σ * efold (s.data.toList.drop a) ∧
                ((nb s[j + 1] == 43) = true ∧ a = j + 1 + 1 ∧ σ = 1 ∨ (nb s[j + 1] == 43) = false ∧ (nb s[j + 1] == 45) = true ∧ a = j + 1 + 1 ∧ σ = -1 ∨ (nb s[j + 1] == 43) = false ∧ (nb s[j + 1] == 45) = false ∧ a = j + 1 ∧ σ = 1) := by
              rw [hdr, hc1]
              rcases hor with ⟨hs1, hs2, hs3⟩ | ⟨hs1, hs3⟩
              · have hlt : j + 1 + 1 < s.size := by
                  refine Nat.lt_of_not_le fun hle => hs2 (drop_all hle)
                cases h43 : (nb s[j + 1] == 43) with
                | true =>
                  refine ⟨j + 1 + 1, 1, hlt, by omega, .inl rfl, hs3, ?_, .inl ⟨rfl, rfl, rfl⟩⟩
                  rw [hc2]; simp only [expv, h43, if_true]; omega
                | false =>
                  have h45 : (nb s[j + 1] == 45) = true := by rw [h43] at hs1; simpa using hs1
                  refine ⟨j + 1 + 1, -1, hlt, by omega, .inr rfl, hs3, ?_, .inr (.inl ⟨rfl, h45, rfl, rfl⟩)⟩
                  rw [hc2]; simp only [expv, h43, h45, if_true, Bool.false_eq_true, if_false]; omega
              · simp only [Bool.or_eq_false_iff] at hs1
                refine ⟨j + 1, 1, hj1, by omega, .inl rfl, hs3, ?_, .inr (.inr ⟨hs1.1, hs1.2, rfl, rfl⟩)⟩
                rw [hc2]; simp only [expv, hs1.1, hs1.2, Bool.false_eq_true, if_false]; omega
            obtain ⟨a, σ, ha, hja, hσ, hdig, hexp, hcase⟩ := key
            have HDIG := Lib.hid hdig
            have HEXP := Lib.hid hexp
            have HSIG := Lib.hid hσ
            clear hor hdig hexp hσ hr hc1 hc2 hdr
            have e95 : (nb s[j] == 95) = false := by
              simp only [Bool.or_eq_true, beq_iff_eq] at hE1; simp only [beq_eq_false_iff_ne, ne_eq]; omega
            have h57 : 57 < (s[j].toNat : Int) := by
              simp only [Bool.or_eq_true, beq_iff_eq, nb] at hE1; omega
            clear hE1
            go_upto_if 142 with fail
            go_cut [17] from 143 to 143 (fun v wx => v = .int .i64 D ∧ wx = w)
            case first =>
              cases xdot
              all_goals
                go_wp2_with fail
                go_meet
                refine ⟨?_, rfl⟩
                rw [HDD.out]; rfl
            case rest =>
              obtain ⟨rfl, hwc⟩ := hcut
              have hwc2 := hwc.symm
              clear hwc
              subst hwc2
              go_upto_block 4 with (go_at_call 80; refine (lower_any _ _).mono ?_; rintro e w' ⟨rfl, rfl⟩)
              go_cut [7, 19] from 171 to 178 (fun i v wx => i = .int .i64 a ∧ v = .int .i64 σ ∧ wx = w)
              case first =>
                rcases hcase with ⟨h43, rfl, rfl⟩ | ⟨h43, h45, rfl, rfl⟩ | ⟨h43, h45, rfl, rfl⟩
                all_goals
                  go_wp2_with fail
                  go_meet
                  exact ⟨by go_num, rfl, rfl⟩
              case rest =>
                obtain ⟨rfl, rfl, hwc⟩ := hcut
                have hwc2 := hwc.symm
                clear hwc
                subst hwc2
                clear hcase
                have hdga : dg s[a] = true := HDIG.out _ (by rw [drop_cons_of ha]; exact List.mem_cons_self)
                simp only [dg, decide_eq_true_eq] at hdga
                have ga1 : ¬ (s[a].toNat : Int) < 48 := by omega
                have ga2 : ¬ (57 : Int) < (s[a].toNat : Int) := by omega
                clear hdga
                go_wp2_with fail
                clear ga1 ga2
                go_loop [7, 9, 20] (fun vi vu ve => ∃ q : Nat, a ≤ q ∧ q ≤ s.size ∧ vi = .int .i64 q ∧ vu = .bool false ∧ ∃ e : Nat, e ≤ 99999 ∧ ve = .int .i64 e ∧ Hid (e = efold ((s.data.toList.drop a).take (q - a)))) (fun vi _ _ => s.size - (intOf vi).toNat)
                case atStart => exact ⟨a, by omega, by omega, rfl, rfl, 0, by omega, rfl, by show _ = _; rw [Nat.sub_self]; rfl⟩
                case round =>
                  obtain ⟨q, haq, hqs, rfl, rfl, e, he, rfl, hef⟩ := hrel
                  by_cases hq : q < s.size
                  · have hmem : dg s[q] = true := HDIG.out _ (by
                      have h3 := drop_cons_of hq
                      have h4 : s[q] ∈ s.data.toList.drop q := by rw [h3]; exact List.mem_cons_self
                      exact mem_drop_le haq h4)
                    simp only [dg, decide_eq_true_eq] at hmem
                    have gq1 : (48 : Int) ≤ (s[q].toNat : Int) := by omega
                    have gq2 : (s[q].toNat : Int) ≤ 57 := by omega
                    have gq3 : ((s[q].toNat : Int) == 95) = false := by simp; omega
                    have hst : efold ((s.data.toList.drop a).take (q + 1 - a)) = estep e s[q] := by
                      rw [show q + 1 - a = (q - a) + 1 by omega, List.take_add_one, List.getElem?_drop, show a + (q - a) = q by omega, List.getElem?_eq_getElem (by simpa using hq)]
                      show efold (_ ++ [s[q]]) = _
                      rw [efold_snoc, ← hef.out]
                    have HST := Lib.hid hst
                    clear hst hmem
                    by_cases he4 : e < 10000
                    · have HS : Hid (e * 10 + (s[q].toNat - 48) = efold ((s.data.toList.drop a).take (q + 1 - a))) := by
                        show _ = _
                        rw [HST.out]; unfold estep; rw [if_pos he4]
                      go_wp2_with fail
                      go_round
                      case rel => exact ⟨q + 1, by omega, by omega, by go_num, rfl, e * 10 + (s[q].toNat - 48), by omega, by congr 1; omega, HS⟩
                      case measure => simp [intOf]; omega
                    · have HS : Hid (e = efold ((s.data.toList.drop a).take (q + 1 - a))) := by
                        show _ = _
                        rw [HST.out]; unfold estep; rw [if_neg he4]
                      go_wp2_with fail
                      go_round
                      case rel => exact ⟨q + 1, by omega, by omega, by go_num, rfl, e, he, rfl, HS⟩
                      case measure => simp [intOf]; omega
                  · have hqe : q = s.size := by omega
                    have hE : e = efold (s.data.toList.drop a) := by
                      have h5 := hef.out
                      rw [hqe, List.take_of_length_le (by simp)] at h5
                      exact h5
                    have hX := HRES.out _ HEXP.out
                    rw [← hE] at hX
                    have HX := Lib.hid hX
                    have HQ := Lib.hid hqe
                    clear hX hE hqe hef
                    by_cases hm0 : xm = 0
                    · have hmb : ((xm : Int) != 0) = false := by simp; omega
                      have HF := Lib.hid (HFIN.out 0 (by rw [HX.out, if_pos hm0]))
                      clear hm0
                      rcases HSIG.out with rfl | rfl
                      all_goals
                        go_wp2_with fail
                        exact bodyPost_ret (v := .tuple #[.int .u64 xm, .int .i64 0, .bool neg, .bool xtr, .bool false, .int .i64 q, .bool true]) (by simp [results, Tryz.f49, go_sem]) rfl ⟨by rw [HF.out, HQ.out], rfl⟩
                    · have hmb : ((xm : Int) != 0) = true := by simp; omega
                      rcases HSIG.out with rfl | rfl
                      · have HF := Lib.hid (HFIN.out (D + e - xnm) (by rw [HX.out, if_neg hm0]; omega))
                        clear hm0
                        go_wp2_with fail
                        exact bodyPost_ret (v := .tuple #[.int .u64 xm, .int .i64 (D + e - xnm), .bool neg, .bool xtr, .bool false, .int .i64 q, .bool true]) (by simp [results, Tryz.f49, go_sem]) rfl ⟨by rw [HF.out, HQ.out], rfl⟩
                      · have HF := Lib.hid (HFIN.out (D + -e - xnm) (by rw [HX.out, if_neg hm0]; omega))
                        clear hm0
                        go_wp2_with fail
                        exact bodyPost_ret (v := .tuple #[.int .u64 xm, .int .i64 (D + -e - xnm), .bool neg, .bool xtr, .bool false, .int .i64 q, .bool true]) (by simp [results, Tryz.f49, go_sem]) rfl ⟨by rw [HF.out, HQ.out], rfl⟩
          · have hE0 : expv (l.drop M) = 0 := by
              rw [List.drop_of_length_le (by have := HLL.out; have := HJ.out; omega)]; rfl
            have HR := Lib.hid (HRES.out 0 hE0)
            have hjs : s.size = j := by have := HJ.out; omega
            have HJS := Lib.hid hjs
            clear hE0 hjs
            go_upto_if 142 with fail
            go_cut [17] from 143 to 143 (fun v wx => v = .int .i64 D ∧ wx = w)
            case first =>
              cases xdot
              all_goals
                go_wp2_with fail
                go_meet
                refine ⟨?_, rfl⟩
                rw [HDD.out]; rfl
            case rest =>
              obtain ⟨rfl, hwc⟩ := hcut
              have hwc2 := hwc.symm
              clear hwc
              subst hwc2
              by_cases hm0 : xm = 0
              · have hmb : ((xm : Int) != 0) = false := by simp; omega
                have HF := Lib.hid (HFIN.out 0 (by rw [HR.out, if_pos hm0]))
                clear hm0
                go_wp2_with fail
                exact bodyPost_ret (v := .tuple #[.int .u64 xm, .int .i64 0, .bool neg, .bool xtr, .bool false, .int .i64 j, .bool true]) (by simp [results, Tryz.f49, go_sem]) rfl ⟨by rw [HF.out, HJS.out], rfl⟩
              · have hmb : ((xm : Int) != 0) = true := by simp; omega
                have HF := Lib.hid (HFIN.out (D - xnm) (by rw [HR.out, if_neg hm0]; omega))
                clear hm0
                go_wp2_with fail
                exact bodyPost_ret (v := .tuple #[.int .u64 xm, .int .i64 (D - xnm), .bool neg, .bool xtr, .bool false, .int .i64 j, .bool true]) (by simp [results, Tryz.f49, go_sem]) rfl ⟨by rw [HF.out, HJS.out], rfl⟩
end Go.Proofs.YtfmkfnochjeleaaGreatDoor
