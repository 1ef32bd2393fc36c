import Derived.Test.YtfmkfnochjeleaaGreatDoorD3
import Derived.Test.YtfmkfnochjeleaaGreatDoorB2
namespace Go.Proofs.YtfmkfnochjeleaaGreatDoor
open Go.RowKit

/-- decimal.set: what the mantissa's loop holds -/
structure DM where
  g : Nat → Nat
  nd : Nat
  dp : Int
  tr : Bool
  dot : Bool
def DM0 : DM := ⟨fun _ => 0, 0, 0, false, false⟩
def dstep (x : DM) (c : UInt8) : DM :=
  if nb c == 46 then { x with dot := true, dp := x.nd }
  else if nb c == 48 && x.nd == 0 then { x with dp := x.dp - 1 }
  else if x.nd < 800 then { x with g := upd x.g x.nd c.toNat, nd := x.nd + 1 }
  else if nb c == 48 then x
  else { x with tr := true }
def dfold (l : List UInt8) : DM := l.foldl dstep DM0
theorem dfold_snoc (l : List UInt8) (c : UInt8) : dfold (l ++ [c]) = dstep (dfold l) c := by simp [dfold]

/-- decimal.set beside readFloat -/
structure DRel (n : Nat) (x : MS) (y : DM) : Prop where
  nd : y.nd = if x.nd ≤ 800 then x.nd else 800
  dot : y.dot = x.dot
  dig : ∀ i, i < y.nd → 48 ≤ y.g i ∧ y.g i ≤ 57
  first : 1 ≤ y.nd → y.g 0 ≠ 48
  dp : -(n : Int) ≤ y.dp ∧ y.dp ≤ 800
theorem DRel0 : DRel 0 MS0 DM0 := ⟨rfl, rfl, fun i h => absurd h (Nat.not_lt_zero i), fun h => absurd h (by decide), by decide⟩
theorem DRel.step {n : Nat} {x : MS} {y : DM} (h : DRel n x y) (c : UInt8) (hc : dg c = true ∨ nb c = 46) : DRel (n + 1) (mstep x c) (dstep y c) := by
  obtain ⟨h1, h2, h3, h4, h5, h6⟩ := h
  have hy8 : y.nd ≤ 800 := by rw [h1]; split <;> omega
  unfold mstep dstep
  by_cases h46 : (nb c == 46) = true
  · rw [if_pos h46, if_pos h46]
    exact ⟨h1, rfl, h3, h4, by show -((n + 1 : Nat) : Int) ≤ (y.nd : Int) ∧ (y.nd : Int) ≤ 800; omega⟩
  · rw [if_neg h46, if_neg h46]
    have hdg : 48 ≤ c.toNat ∧ c.toNat ≤ 57 := by
      rcases hc with h | h
      · simpa only [dg, decide_eq_true_eq] using h
      · simp [h] at h46
    have hz : (y.nd == 0) = (x.nd == 0) := by
      rw [h1]
      by_cases h : x.nd ≤ 800
      · rw [if_pos h]
      · rw [if_neg h]
        have : (x.nd == 0) = false := by rw [beq_eq_false_iff_ne]; omega
        rw [this]; rfl
    by_cases h48 : (nb c == 48 && x.nd == 0) = true
    · rw [if_pos h48, if_pos (by rw [hz]; exact h48)]
      exact ⟨h1, h2, h3, h4, by show -((n + 1 : Nat) : Int) ≤ y.dp - 1 ∧ y.dp - 1 ≤ 800; omega⟩
    · have e2 : ¬ (nb c == 48 && y.nd == 0) = true := by rw [hz]; exact h48
      rw [if_neg h48, if_neg e2]
      have key : ∀ x' : MS, x'.nd = x.nd + 1 → x'.dot = x.dot → DRel (n + 1) x' (if y.nd < 800 then { y with g := upd y.g y.nd c.toNat, nd := y.nd + 1 } else if nb c == 48 then y else { y with tr := true }) := by
        intro x' e1 e2
        by_cases hlt : y.nd < 800
        · rw [if_pos hlt]
          have hx : x.nd = y.nd := by
            rw [h1]; split
            · rfl
            · rename_i h; rw [h1, if_neg h] at hlt; omega
          refine ⟨?_, h2.trans e2.symm, ?_, ?_, ?_⟩
          · show y.nd + 1 = _
            rw [e1, hx, if_pos (by omega)]
          · intro i hi
            show 48 ≤ upd y.g y.nd c.toNat i ∧ upd y.g y.nd c.toNat i ≤ 57
            unfold upd
            by_cases hi2 : i = y.nd
            · rw [if_pos hi2]; exact hdg
            · rw [if_neg hi2]
              have hi3 : i < y.nd + 1 := hi
              exact h3 i (by omega)
          · intro _
            show upd y.g y.nd c.toNat 0 ≠ 48
            unfold upd
            by_cases h0 : 0 = y.nd
            · rw [if_pos h0]
              intro hc48
              refine h48 ?_
              rw [← hz, ← h0]
              simp only [nb, hc48]
              decide
            · rw [if_neg h0]; exact h4 (by omega)
          · show -((n + 1 : Nat) : Int) ≤ y.dp ∧ y.dp ≤ 800; omega
        · rw [if_neg hlt]
          have hx : 800 ≤ x.nd := by
            by_cases h : x.nd ≤ 800
            · rw [h1, if_pos h] at hlt; omega
            · omega
          have hnd : y.nd = if x'.nd ≤ 800 then x'.nd else 800 := by rw [e1, if_neg (by omega)]; omega
          split
          · exact ⟨hnd, h2.trans e2.symm, h3, h4, by omega⟩
          · exact ⟨hnd, h2.trans e2.symm, h3, h4, by show -((n + 1 : Nat) : Int) ≤ y.dp ∧ y.dp ≤ 800; omega⟩
      obtain ⟨y', hy'⟩ : ∃ y' : DM, y' = (if y.nd < 800 then { y with g := upd y.g y.nd c.toNat, nd := y.nd + 1 } else if nb c == 48 then y else { y with tr := true }) := ⟨_, rfl⟩
      rw [← hy'] at key ⊢
      split
      · exact key _ rfl rfl
      · split
        · exact key _ rfl rfl
        · exact key _ rfl rfl
theorem foldl_drel : ∀ (l : List UInt8) (n : Nat) (x : MS) (y : DM), DRel n x y → (∀ c ∈ l, dg c = true ∨ nb c = 46) → DRel (n + l.length) (l.foldl mstep x) (l.foldl dstep y)
  | [], n, x, y, h, _ => h
  | c :: l, n, x, y, h, hc => by
    have := foldl_drel l (n + 1) (mstep x c) (dstep y c) (h.step c (hc c List.mem_cons_self)) (fun d hd => hc d (List.mem_cons_of_mem _ hd))
    rw [List.length_cons, show n + (l.length + 1) = n + 1 + l.length by omega]
    exact this
theorem dfold_rel (l : List UInt8) (h : ∀ c ∈ l, dg c = true ∨ nb c = 46) : DRel l.length (mfold l) (dfold l) := by
  have := foldl_drel l 0 MS0 DM0 DRel0 h
  rwa [Nat.zero_add] at this

theorem DecAt.drew {w : World} {b : Nat} {neg : Bool} {S : DS} (h : DecAt w b neg S) : DecAt w.drew b neg S := ⟨h.d, h.nd, h.dp, h.neg, h.tr, h.fz⟩

/-- the decimal of a number's text -/
def decS (l : List UInt8) : DS :=
  let y := dfold (l.take (mant l))
  ⟨y.g, y.nd, (if y.dot then y.dp else y.nd) + expv (l.drop (mant l)), y.tr⟩

set_option maxRecDepth 100000 in
set_option maxHeartbeats 16000000 in
theorem set_any (b : Nat) (s : ByteArray) (neg : Bool) (i0 : Nat) (w : World) (h : NumText s neg i0) (h0 : DecAt w b false ⟨fun _ => 0, 0, 0, false⟩) :
    Calls Tryz.prog 55 #[.pointer (some ⟨b, 0, none⟩), .string s] w fun e w' => e = .returned (.bool true) ∧ DecAt w' b neg (decS (s.data.toList.drop i0)) ∧ Below b w w' := by
  obtain ⟨hsz, hdec, hsign⟩ := h
  have H0 := Lib.hid h0
  clear h0
  have hsh := shape_of hdec
  obtain ⟨l, hl⟩ : ∃ l, l = s.data.toList.drop i0 := ⟨_, rfl⟩
  rw [← hl] at hdec hsh
  rw [← hl]
  have hll : l.length = s.size - i0 := by rw [hl]; simp
  have hi0s : i0 < s.size := by have := hsh.pos; have := hsh.le; omega
  have HSH := Lib.hid hsh
  have HL := Lib.hid hl
  have HDEC := Lib.hid hdec
  have HLL := Lib.hid hll
  clear hsh hdec hl hll
  obtain ⟨DS1, hDS1⟩ : ∃ D, D = decS l := ⟨_, rfl⟩
  have HDS := Lib.hid hDS1
  rw [← hDS1]
  clear hDS1
  have hfirst := dec_first HDEC.out
  obtain ⟨c, r, hcr, hc⟩ := hfirst
  have hget : (s.data.toList.drop i0) = s[i0] :: s.data.toList.drop (i0 + 1) := drop_cons_of hi0s
  rw [← HL.out, hcr] at hget
  have hce : c = s[i0] := (List.cons.inj hget).1
  rw [hce] at hc
  clear hget hce hcr c r
  have n43 : (nb s[i0] == 43) = false := by
    simp only [dg, decide_eq_true_eq, nb] at hc; simp only [nb, beq_eq_false_iff_ne, ne_eq]; omega
  have n45 : (nb s[i0] == 45) = false := by
    simp only [dg, decide_eq_true_eq, nb] at hc; simp only [nb, beq_eq_false_iff_ne, ne_eq]; omega
  clear hc
  have c4 := H0.out.fz
  have c2 := H0.out.neg
  have c3 := H0.out.tr
  go_enter Tryz.func55, Tryz.ntmps55
  have h0 : 0 < s.size := by omega
  have hne : ¬ s = ByteArray.empty := by intro h; subst h; simp at hi0s
  have HSG := Lib.hid hsign
  clear hsign
  have hA : Hid (DecAt ((w.setCell ⟨b, 802, none⟩ (.bool false)).setCell ⟨b, 803, none⟩ (.bool false)) b false ⟨fun _ => 0, 0, 0, false⟩) := by
    show DecAt _ _ _ _
    have h := H0.out
    exact
      { d := fun i hi => by rw [cell_set_ne (by omega), cell_set_ne (by omega)]; exact h.d i hi
        nd := by rw [cell_set_ne (by omega), cell_set_ne (by omega)]; exact h.nd
        dp := by rw [cell_set_ne (by omega), cell_set_ne (by omega)]; exact h.dp
        neg := by rw [cell_set_ne (by omega)]; exact cell_set_eq h.neg
        tr := by
          have := cell_set_ne (w := w) (b := b) (v := .bool false) (show (802 : Nat) ≠ 803 by decide)
          exact cell_set_eq (this.trans h.tr)
        fz := fz_set (fz_set h.fz) }
  have hAB : Hid (Below b w ((w.setCell ⟨b, 802, none⟩ (.bool false)).setCell ⟨b, 803, none⟩ (.bool false))) :=
    Below.setCell (p := ⟨b, 803, none⟩) (Below.setCell (p := ⟨b, 802, none⟩) (Below.refl b w) (Nat.le_refl b) _) (Nat.le_refl b) _
  go_upto_block 0 with fail
  obtain ⟨w0, hw0⟩ : ∃ w0, w0 = (w.setCell ⟨b, 802, none⟩ (.bool false)).setCell ⟨b, 803, none⟩ (.bool false) := ⟨_, rfl⟩
  rw [← hw0] at hA hAB
  rw [← hw0]
  clear hw0 c2 c3 c4
  have c4 := hA.out.fz
  have c2 := hA.out.neg
  go_cut [5] from 23 to 33 (fun i wx => i = .int .i64 i0 ∧ Hid (DecAt wx b neg ⟨fun _ => 0, 0, 0, false⟩) ∧ Below b w wx)
  case first =>
    rcases HSG.out with ⟨rfl, rfl⟩ | ⟨rfl, rfl, hs0, hs45⟩
    · go_wp2_with fail
      go_meet
      exact ⟨rfl, hA, hAB.out⟩
    · have h45b := nb_eq hs45
      have h43b : (nb s[0] == 43) = false := by rw [hs45]; rfl
      clear hs45
      go_wp2_with fail
      go_meet
      have h := hA.out
      exact ⟨rfl,
        { d := fun i hi => by rw [cell_set_ne (by omega)]; exact h.d i hi
          nd := by rw [cell_set_ne (by omega)]; exact h.nd
          dp := by rw [cell_set_ne (by omega)]; exact h.dp
          neg := cell_set_eq h.neg
          tr := by rw [cell_set_ne (by omega)]; exact h.tr
          fz := fz_set h.fz },
        Below.setCell (p := ⟨b, 802, none⟩) hAB.out (Nat.le_refl b) _⟩
  case rest =>
    clear c4 c2 hA hAB n43 n45
    obtain ⟨rfl, hdec, hbel⟩ := hcut
    have hi01 : i0 ≤ 1 := by rcases HSG.out with ⟨_, h⟩ | ⟨_, h, _⟩ <;> omega
    have hmant := HSH.out.le
    have hmp := HSH.out.pos
    have hllen : l.length ≤ 2001 := by have := HLL.out; omega
    obtain ⟨M, hM0⟩ : ∃ M, M = mant l := ⟨_, rfl⟩
    rw [← hM0] at hmant hmp
    have hMs : i0 + M ≤ s.size := by have := HLL.out; omega
    have HM := Lib.hid hM0
    have hgetl : Hid (∀ j (h : j < s.size), i0 ≤ j → ∃ h2 : j - i0 < l.length, l[j - i0] = s[j]) := fun j h hj => by
      have h2 : j - i0 < l.length := by have := HLL.out; omega
      refine ⟨h2, ?_⟩
      have h3 : l[j - i0]? = some s[j] := by
        rw [HL.out, List.getElem?_drop, show i0 + (j - i0) = j by omega, List.getElem?_eq_getElem (by simpa using h)]; rfl
      rw [List.getElem?_eq_getElem h2] at h3
      exact Option.some.inj h3
    clear hM0
    go_upto_block 1 with fail
    go_cut [5, 6, 7] from 34 to 116 (fun iv dv sv wx => ∃ y : DM, iv = .int .i64 (i0 + M : Nat) ∧ dv = .bool y.dot ∧ sv = .bool true ∧ Hid (y = dfold (l.take M)) ∧ Hid (DRel M (mfold (l.take M)) y) ∧ Hid (DecAt wx b neg ⟨y.g, y.nd, y.dp, y.tr⟩) ∧ Below b w wx)
    case first =>
      go_wp2_with fail
      go_loopw [5, 6, 7] (fun iv dv sv wx => ∃ (j : Nat) (y : DM), i0 ≤ j ∧ j ≤ i0 + M ∧ Hid (y = dfold (l.take (j - i0))) ∧ iv = .int .i64 j ∧ dv = .bool y.dot ∧ sv = .bool (mfold (l.take (j - i0))).sd ∧ Hid (DecAt wx b neg ⟨y.g, y.nd, y.dp, y.tr⟩) ∧ Below b w wx) (fun iv _ _ _ => s.size - (intOf iv).toNat)
      case atStart => exact ⟨i0, DM0, by omega, by omega, by show _ = _; rw [Nat.sub_self]; rfl, rfl, rfl, by rw [Nat.sub_self]; rfl, hdec, hbel⟩
      case round =>
        clear hdec hbel
        obtain ⟨j, y, hij, hj, hy0, rfl, rfl, rfl, hdec, hbel⟩ := hrel
        have hcls : ∀ c ∈ l.take (j - i0), dg c = true ∨ nb c = 46 := fun c hc => by
          obtain ⟨i, hi, hg⟩ := mem_take_get hc
          exact mant_get l i c (by have := HM.out; omega) hg
        have hrl := dfold_rel _ hcls
        rw [← hy0.out, List.length_take, Nat.min_eq_left (by omega)] at hrl
        obtain ⟨yg, ynd, ydp, ytr, ydot⟩ := y
        have hnd8 : ynd ≤ 800 := by have h := hrl.nd; simp only at h; rw [h]; split <;> omega
        obtain ⟨hdp1, hdp2⟩ := hrl.dp
        simp only at hdp1 hdp2
        have hdp3 : -2001 ≤ ydp := by omega
        have k0 := hdec.out.nd
        have k1 := hdec.out.dp
        have k3 := hdec.out.tr
        have kf := hdec.out.fz
        simp only at k0 k1 k3
        have HRL := Lib.hid hrl
        clear hrl hcls hdp1
        obtain ⟨sd, hsd⟩ : ∃ sd, sd = (mfold (l.take (j - i0))).sd := ⟨_, rfl⟩
        have HSD := Lib.hid hsd
        rw [← hsd]
        clear hsd
        by_cases hkM : j < i0 + M
        · have hjs : j < s.size := by omega
          obtain ⟨h2, hlj⟩ := hgetl.out j hjs hij
          have hclc := HSH.out.cls (j - i0) h2 (by have := HM.out; omega)
          have hdot := HSH.out.dot (j - i0) h2 (by have := HM.out; omega)
          rw [hlj] at hdot hclc
          have htk : l.take (j + 1 - i0) = l.take (j - i0) ++ [s[j]] := by
            rw [show j + 1 - i0 = (j - i0) + 1 by omega, List.take_add_one, List.getElem?_eq_getElem h2, hlj]
            rfl
          have HSTEP : Hid (dfold (l.take (j + 1 - i0)) = dstep ⟨yg, ynd, ydp, ytr, ydot⟩ s[j]) := by
            show _ = _
            rw [htk, dfold_snoc, ← hy0.out]
          have HMS : Hid (mfold (l.take (j + 1 - i0)) = mstep (mfold (l.take (j - i0))) s[j]) := by
            show _ = _
            rw [htk, mfold_snoc]
          have hdd : ydot = (mfold (l.take (j - i0))).dot := HRL.out.dot
          clear htk
          by_cases h46 : nb s[j] = 46
          · have hdf : ydot = false := hdd.trans (hdot h46)
            subst hdf
            have e46 := nb_eq h46
            have e95 : (nb s[j] == 95) = false := nb_ne (by omega)
            have HS : Hid (dfold (l.take (j + 1 - i0)) = ⟨yg, ynd, ynd, ytr, true⟩) := by
              show _ = _
              rw [HSTEP.out]; unfold dstep; rw [if_pos e46]
            have HS2 : Hid ((mfold (l.take (j + 1 - i0))).sd = sd) := by
              show _ = _
              rw [HMS.out, HSD.out]; unfold mstep; rw [if_pos e46]
            clear h46 hdot hclc hlj h2 hdd
            go_wp2_with fail
            go_roundw
            case rel => exact ⟨j + 1, ⟨yg, ynd, ynd, ytr, true⟩, by omega, by omega, HS.out.symm, rfl, rfl, congrArg Value.bool HS2.out.symm, hdec.out.setDp ynd, Below.setCell (p := ⟨b, 801, none⟩) hbel (Nat.le_refl b) _⟩
            case measure => simp [intOf]; omega
          · have e46 := nb_ne h46
            have hdg : 48 ≤ nb s[j] ∧ nb s[j] ≤ 57 := by
              rcases hclc with h | h
              · simp only [dg, decide_eq_true_eq] at h; simp only [nb]; omega
              · exact absurd h h46
            obtain ⟨g1, g2⟩ := hdg
            have e95 : (nb s[j] == 95) = false := nb_ne (by omega)
            have n46 : ¬ (nb s[j] == 46) = true := by rw [e46]; decide
            have N46 := Lib.hid n46
            have HS2 : Hid ((mfold (l.take (j + 1 - i0))).sd = true) := by
              show _ = _
              rw [HMS.out]; unfold mstep; rw [if_neg n46]
              split
              · rfl
              · split
                · rfl
                · split <;> rfl
            clear h46 hdot hclc hlj h2 n46 hdd
            by_cases hz : (nb s[j] == 48 && ynd == 0) = true
            · have e48 : (nb s[j] == 48) = true := by simp only [Bool.and_eq_true] at hz; exact hz.1
              have hnd0 : ynd = 0 := by simp only [Bool.and_eq_true, beq_iff_eq] at hz; exact hz.2
              subst hnd0
              have HS : Hid (dfold (l.take (j + 1 - i0)) = ⟨yg, 0, ydp - 1, ytr, ydot⟩) := by
                show _ = _
                rw [HSTEP.out]; unfold dstep; rw [if_neg N46.out, if_pos hz]
              clear hz
              go_wp2_with fail
              go_roundw
              case rel => exact ⟨j + 1, ⟨yg, 0, ydp - 1, ytr, ydot⟩, by omega, by omega, HS.out.symm, rfl, rfl, congrArg Value.bool HS2.out.symm, hdec.out.setDp (ydp - 1), Below.setCell (p := ⟨b, 801, none⟩) hbel (Nat.le_refl b) _⟩
              case measure => simp [intOf]; omega
            · have HZ := Lib.hid hz
              cases e48 : (nb s[j] == 48) with
              | true =>
                have end0 : ((ynd : Int) == 0) = false := by
                  rw [beq_eq_false_iff_ne]
                  intro h0
                  refine HZ.out ?_
                  rw [e48, show ynd = 0 by omega]
                  rfl
                clear hz
                by_cases hlt : ynd < 800
                · have k2 := hdec.out.d ynd hlt
                  simp only at k2
                  have HS : Hid (dfold (l.take (j + 1 - i0)) = ⟨upd yg ynd s[j].toNat, ynd + 1, ydp, ytr, ydot⟩) := by
                    show _ = _
                    rw [HSTEP.out]; unfold dstep; rw [if_neg N46.out, if_neg HZ.out, if_pos hlt]
                  go_upto_region 25 with fail
                  go_region
                  all_goals
                    go_wp2_with fail
                    go_roundw
                    case rel => exact ⟨j + 1, ⟨upd yg ynd s[j].toNat, ynd + 1, ydp, ytr, ydot⟩, by omega, by omega, HS.out.symm, rfl, rfl, congrArg Value.bool HS2.out.symm, ((hdec.out.setD ynd s[j].toNat hlt).setNd (ynd + 1)).drew, (Below.setCell (p := ⟨b, 800, none⟩) (Below.setCell (p := ⟨b, ynd, none⟩) hbel (Nat.le_refl b) _) (Nat.le_refl b) _).drew⟩
                    case measure => simp [intOf]; omega
                · have HS : Hid (dfold (l.take (j + 1 - i0)) = ⟨yg, ynd, ydp, ytr, ydot⟩) := by
                    show _ = _
                    rw [HSTEP.out]; unfold dstep; rw [if_neg N46.out, if_neg HZ.out, if_neg hlt, if_pos e48]
                  have hltd : decide ((ynd : Int) < 800) = false := decide_eq_false (by omega)
                  have en48 : (nb s[j] != 48) = false := by simp [bne, e48]
                  go_wp2_with fail
                  go_roundw
                  case rel => exact ⟨j + 1, ⟨yg, ynd, ydp, ytr, ydot⟩, by omega, by omega, HS.out.symm, rfl, rfl, congrArg Value.bool HS2.out.symm, hdec, hbel⟩
                  case measure => simp [intOf]; omega
              | false =>
                clear hz
                by_cases hlt : ynd < 800
                · have k2 := hdec.out.d ynd hlt
                  simp only at k2
                  have HS : Hid (dfold (l.take (j + 1 - i0)) = ⟨upd yg ynd s[j].toNat, ynd + 1, ydp, ytr, ydot⟩) := by
                    show _ = _
                    rw [HSTEP.out]; unfold dstep; rw [if_neg N46.out, if_neg HZ.out, if_pos hlt]
                  go_upto_region 25 with fail
                  go_region
                  all_goals
                    go_wp2_with fail
                    go_roundw
                    case rel => exact ⟨j + 1, ⟨upd yg ynd s[j].toNat, ynd + 1, ydp, ytr, ydot⟩, by omega, by omega, HS.out.symm, rfl, rfl, congrArg Value.bool HS2.out.symm, ((hdec.out.setD ynd s[j].toNat hlt).setNd (ynd + 1)).drew, (Below.setCell (p := ⟨b, 800, none⟩) (Below.setCell (p := ⟨b, ynd, none⟩) hbel (Nat.le_refl b) _) (Nat.le_refl b) _).drew⟩
                    case measure => simp [intOf]; omega
                · have HS : Hid (dfold (l.take (j + 1 - i0)) = ⟨yg, ynd, ydp, true, ydot⟩) := by
                    show _ = _
                    rw [HSTEP.out]; unfold dstep; rw [if_neg N46.out, if_neg HZ.out, if_neg hlt, if_neg (by rw [e48]; decide)]
                  have hltd : decide ((ynd : Int) < 800) = false := decide_eq_false (by omega)
                  have en48 : (nb s[j] != 48) = true := by simp [bne, e48]
                  go_wp2_with fail
                  go_roundw
                  case rel => exact ⟨j + 1, ⟨yg, ynd, ydp, true, ydot⟩, by omega, by omega, HS.out.symm, rfl, rfl, congrArg Value.bool HS2.out.symm, hdec.out.setTr true, Below.setCell (p := ⟨b, 803, none⟩) hbel (Nat.le_refl b) _⟩
                  case measure => simp [intOf]; omega
        · have hje : j = i0 + M := by omega
          have hy1 := hy0.out
          rw [hje, show i0 + M - i0 = M by omega] at hy1
          have hr1 := HRL.out
          rw [hje, show i0 + M - i0 = M by omega] at hr1
          have hsd1 : sd = true := by
            have h1 := HSH.out.sd
            rw [← HM.out] at h1
            rw [HSD.out, hje, show i0 + M - i0 = M by omega]
            exact h1
          subst hsd1
          have HY1 := Lib.hid hy1
          have HR1 := Lib.hid hr1
          have HJ := Lib.hid hje
          clear hy1 hr1 hje
          by_cases hend : j < s.size
          · have hdr : l.drop M = s.data.toList.drop j := by rw [HL.out, List.drop_drop, HJ.out]
            have hc1 := drop_cons_of hend
            obtain ⟨hE1, d, r', hr, hor⟩ := HSH.out.fin _ _ (by rw [← HM.out, hdr, hc1])
            clear hr hor hc1 hdr
            have e95 : (nb s[j] == 95) = false := by
              simp only [Bool.or_eq_true, beq_iff_eq] at hE1; simp only [beq_eq_false_iff_ne, ne_eq]; omega
            have c46 : (nb s[j] == 46) = false := by
              simp only [Bool.or_eq_true, beq_iff_eq] at hE1; simp only [beq_eq_false_iff_ne, ne_eq]; omega
            have h57 : 57 < (s[j].toNat : Int) := by
              simp only [Bool.or_eq_true, beq_iff_eq, nb] at hE1; omega
            clear hE1
            go_wp2_with fail
            go_meet
            exact ⟨⟨yg, ynd, ydp, ytr, ydot⟩, congrArg (Value.int IntKind.i64) (by have := HJ.out; omega), rfl, rfl, HY1, HR1, hdec, hbel⟩
          · go_wp2_with fail
            go_meet
            exact ⟨⟨yg, ynd, ydp, ytr, ydot⟩, congrArg (Value.int IntKind.i64) (by have := HJ.out; omega), rfl, rfl, HY1, HR1, hdec, hbel⟩
    case rest =>
      clear hdec hbel
      obtain ⟨y, rfl, rfl, rfl, hy0, hrl, hdec, hbel⟩ := hcut
      obtain ⟨yg, ynd, ydp, ytr, ydot⟩ := y
      have hnd8 : ynd ≤ 800 := by have h := hrl.out.nd; simp only at h; rw [h]; split <;> omega
      obtain ⟨hdp1, hdp2⟩ := hrl.out.dp
      simp only at hdp1 hdp2
      have k0 := hdec.out.nd
      have k1 := hdec.out.dp
      have kf := hdec.out.fz
      simp only at k0 k1
      obtain ⟨j, hj⟩ : ∃ j, j = i0 + M := ⟨_, rfl⟩
      rw [← hj] at hMs ⊢
      have HJ := Lib.hid hj
      obtain ⟨D, hD0⟩ : ∃ D : Int, D = (if ydot then ydp else ynd) := ⟨_, rfl⟩
      have hD1 : -2001 ≤ D := by rw [hD0]; split <;> omega
      have hD2 : D ≤ 2001 := by rw [hD0]; split <;> omega
      have HDD := Lib.hid hD0
      have HRES : Hid (∀ E : Int, expv (l.drop M) = E → DS1 = ⟨yg, ynd, D + E, ytr⟩) := fun E hE => by
        rw [HDS.out]
        unfold decS
        rw [← HM.out, ← hy0.out, hE, hD0]
      clear hD0 hj hdp1 hdp2
      go_upto_if 120 with fail
      go_cut [] from 119 to 127 (fun wx => Hid (DecAt wx b neg ⟨yg, ynd, D, ytr⟩) ∧ Below b w wx)
      case first =>
        cases ydot
        · go_wp2_with fail
          go_meet
          refine ⟨?_, Below.setCell (p := ⟨b, 801, none⟩) hbel (Nat.le_refl b) _⟩
          have := hdec.out.setDp ynd
          have e := HDD.out
          simp only [Bool.false_eq_true, if_false] at e
          show DecAt _ _ _ _
          rw [e]
          exact this
        · go_wp2_with fail
          go_meet
          refine ⟨?_, hbel⟩
          have e := HDD.out
          simp only [if_true] at e
          show DecAt _ _ _ _
          rw [e]
          exact hdec.out
      case rest =>
        clear hdec hbel k0 k1 kf
        obtain ⟨hdec, hbel⟩ := hcut
        have kf := hdec.out.fz
        have k1 := hdec.out.dp
        simp only at k1
        by_cases hend : j < s.size
        · have hdr : l.drop M = s.data.toList.drop j := by rw [HL.out, List.drop_drop, HJ.out]
          have hc1 := drop_cons_of hend
          obtain ⟨hE1, d, r', hr, hor⟩ := HSH.out.fin _ _ (by rw [← HM.out, hdr, hc1])
          have hj1 : j + 1 < s.size := by
            have := congrArg List.length hr
            simp at this; omega
          have hc2 := drop_cons_of hj1
          have hd2 : d = s[j + 1] := by rw [hr] at hc2; exact (List.cons.inj hc2).1
          have hr2 : r' = s.data.toList.drop (j + 1 + 1) := by rw [hr] at hc2; exact (List.cons.inj hc2).2
          subst hd2 hr2
          have hlow : (lowr s[j] == 101) = true := by rw [(lowr_ne _).2]; exact hE1
          have key : ∃ (a : Nat) (σ : Int), a < s.size ∧ j + 1 ≤ a ∧ (σ = 1 ∨ σ = -1) ∧ (∀ x ∈ s.data.toList.drop a, dg x = true) ∧ expv (l.drop M) = σ * efold (s.data.toList.drop a) ∧
              ((nb s[j + 1] == 43) = true ∧ a = j + 1 + 1 ∧ σ = 1 ∨ (nb s[j + 1] == 43) = false ∧ (nb s[j + 1] == 45) = true ∧ a = j + 1 + 1 ∧ σ = -1 ∨ (nb s[j + 1] == 43) = false ∧ (nb s[j + 1] == 45) = false ∧ a = j + 1 ∧ σ = 1) := by
            rw [hdr, hc1]
            rcases hor with ⟨hs1, hs2, hs3⟩ | ⟨hs1, hs3⟩
            · have hlt : j + 1 + 1 < s.size := by
                refine Nat.lt_of_not_le fun hle => hs2 (drop_all hle)
              cases h43 : (nb s[j + 1] == 43) with
              | true =>
                refine ⟨j + 1 + 1, 1, hlt, by omega, .inl rfl, hs3, ?_, .inl ⟨rfl, rfl, rfl⟩⟩
                rw [hc2]; simp only [expv, h43, if_true]; omega
              | false =>
                have h45 : (nb s[j + 1] == 45) = true := by rw [h43] at hs1; simpa using hs1
                refine ⟨j + 1 + 1, -1, hlt, by omega, .inr rfl, hs3, ?_, .inr (.inl ⟨rfl, h45, rfl, rfl⟩)⟩
                rw [hc2]; simp only [expv, h43, h45, if_true, Bool.false_eq_true, if_false]; omega
            · simp only [Bool.or_eq_false_iff] at hs1
              refine ⟨j + 1, 1, hj1, by omega, .inl rfl, hs3, ?_, .inr (.inr ⟨hs1.1, hs1.2, rfl, rfl⟩)⟩
              rw [hc2]; simp only [expv, hs1.1, hs1.2, Bool.false_eq_true, if_false]; omega
          obtain ⟨a, σ, ha, hja, hσ, hdig, hexp, hcase⟩ := key
          have HDIG := Lib.hid hdig
          have HEXP := Lib.hid hexp
          have HSIG := Lib.hid hσ
          clear hor hdig hexp hσ hr hc1 hc2 hdr hE1
          go_upto_block 4 with (go_at_call 80; refine (lower_any _ _).mono ?_; rintro e w' ⟨rfl, rfl⟩)
          go_cut [5, 8] from 148 to 155 (fun i v wx => i = .int .i64 a ∧ v = .int .i64 σ ∧ wx = wc)
          case first =>
            rcases hcase with ⟨h43, rfl, rfl⟩ | ⟨h43, h45, rfl, rfl⟩ | ⟨h43, h45, rfl, rfl⟩
            all_goals
              go_wp2_with fail
              go_meet
              exact ⟨by go_num, rfl, rfl⟩
          case rest =>
            obtain ⟨rfl, rfl, hwc⟩ := hcut
            have hwc2 := hwc.symm
            clear hwc
            subst hwc2
            clear hcase
            have hdga : dg s[a] = true := HDIG.out _ (by rw [drop_cons_of ha]; exact List.mem_cons_self)
            simp only [dg, decide_eq_true_eq] at hdga
            have ga1 : ¬ (s[a].toNat : Int) < 48 := by omega
            have ga2 : ¬ (57 : Int) < (s[a].toNat : Int) := by omega
            clear hdga
            go_wp2_with fail
            clear ga1 ga2
            go_loop [5, 9] (fun vi ve => ∃ q : Nat, a ≤ q ∧ q ≤ s.size ∧ vi = .int .i64 q ∧ ∃ e : Nat, e ≤ 99999 ∧ ve = .int .i64 e ∧ Hid (e = efold ((s.data.toList.drop a).take (q - a)))) (fun vi _ => s.size - (intOf vi).toNat)
            case atStart => exact ⟨a, by omega, by omega, rfl, 0, by omega, rfl, by show _ = _; rw [Nat.sub_self]; rfl⟩
            case round =>
              obtain ⟨q, haq, hqs, rfl, e, he, rfl, hef⟩ := hrel
              by_cases hq : q < s.size
              · have hmem : dg s[q] = true := HDIG.out _ (by
                  have h3 := drop_cons_of hq
                  have h4 : s[q] ∈ s.data.toList.drop q := by rw [h3]; exact List.mem_cons_self
                  exact mem_drop_le haq h4)
                simp only [dg, decide_eq_true_eq] at hmem
                have gq1 : (48 : Int) ≤ (s[q].toNat : Int) := by omega
                have gq2 : (s[q].toNat : Int) ≤ 57 := by omega
                have gq3 : ((s[q].toNat : Int) == 95) = false := by simp; omega
                have hst : efold ((s.data.toList.drop a).take (q + 1 - a)) = estep e s[q] := by
                  rw [show q + 1 - a = (q - a) + 1 by omega, List.take_add_one, List.getElem?_drop, show a + (q - a) = q by omega, List.getElem?_eq_getElem (by simpa using hq)]
                  show efold (_ ++ [s[q]]) = _
                  rw [efold_snoc, ← hef.out]
                have HST := Lib.hid hst
                clear hst hmem
                by_cases he4 : e < 10000
                · have HS : Hid (e * 10 + (s[q].toNat - 48) = efold ((s.data.toList.drop a).take (q + 1 - a))) := by
                    show _ = _
                    rw [HST.out]; unfold estep; rw [if_pos he4]
                  go_wp2_with fail
                  go_round
                  case rel => exact ⟨q + 1, by omega, by omega, by go_num, e * 10 + (s[q].toNat - 48), by omega, by congr 1; omega, HS⟩
                  case measure => simp [intOf]; omega
                · have HS : Hid (e = efold ((s.data.toList.drop a).take (q + 1 - a))) := by
                    show _ = _
                    rw [HST.out]; unfold estep; rw [if_neg he4]
                  go_wp2_with fail
                  go_round
                  case rel => exact ⟨q + 1, by omega, by omega, by go_num, e, he, rfl, HS⟩
                  case measure => simp [intOf]; omega
              · have hqe : q = s.size := by omega
                have hE : e = efold (s.data.toList.drop a) := by
                  have h5 := hef.out
                  rw [hqe, List.take_of_length_le (by simp)] at h5
                  exact h5
                have hX := HRES.out _ HEXP.out
                rw [← hE] at hX
                have HX := Lib.hid hX
                have HQ := Lib.hid hqe
                have hqn : ((q : Int) != (s.size : Int)) = false := by simp only [bne_eq_false_iff_eq]; omega
                clear hX hE hqe hef
                rcases HSIG.out with rfl | rfl
                · go_wp2_with fail
                  go_ret
                  refine ⟨rfl, ?_, Below.setCell (p := ⟨b, 801, none⟩) hbel (Nat.le_refl b) _⟩
                  rw [HX.out, show D + 1 * (e : Int) = D + e by omega]
                  exact hdec.out.setDp _
                · go_wp2_with fail
                  go_ret
                  refine ⟨rfl, ?_, Below.setCell (p := ⟨b, 801, none⟩) hbel (Nat.le_refl b) _⟩
                  rw [HX.out, show D + -1 * (e : Int) = D + -(e : Int) by omega]
                  exact hdec.out.setDp _
        · have hje : j = s.size := by omega
          have hX := HRES.out 0 (by
            have : l.drop M = [] := by rw [HL.out, List.drop_drop, ← HJ.out, hje]; exact drop_all (Nat.le_refl _)
            rw [this]; rfl)
          have HX := Lib.hid hX
          have hqn : ((j : Int) != (s.size : Int)) = false := by simp only [bne_eq_false_iff_eq]; omega
          clear hX hje
          go_wp2_with fail
          go_ret
          have e : DS1 = ⟨yg, ynd, D, ytr⟩ := by rw [HX.out, Int.add_zero]
          exact ⟨rfl, by rw [e]; exact hdec.out, hbel⟩

end Go.Proofs.YtfmkfnochjeleaaGreatDoor
