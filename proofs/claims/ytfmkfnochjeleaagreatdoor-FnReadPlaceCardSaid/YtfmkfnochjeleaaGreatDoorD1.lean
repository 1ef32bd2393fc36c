import Derived.Test.YtfmkfnochjeleaaGreatDoorC1
import Derived.Deep.LoopGhost
import Derived.Deep.QuietTactic
import Derived.Deep.CutBlock
import Derived.Deep.CutRange
namespace Go.Proofs.YtfmkfnochjeleaaGreatDoor
open Go.RowKit

/-- a decimal: all bytes of d (digits and what lies behind them), how many are digits, where the point is, whether digits were cut -/
structure DS where
  g : Nat → Nat
  nd : Nat
  dp : Int
  tr : Bool

structure DecAt (w : World) (b : Nat) (neg : Bool) (S : DS) : Prop where
  d : ∀ i, i < 800 → w.cell? ⟨b, i, none⟩ = some (.int .u8 (S.g i))
  nd : w.cell? ⟨b, 800, none⟩ = some (.int .i64 S.nd)
  dp : w.cell? ⟨b, 801, none⟩ = some (.int .i64 S.dp)
  neg : w.cell? ⟨b, 802, none⟩ = some (.bool neg)
  tr : w.cell? ⟨b, 803, none⟩ = some (.bool S.tr)
  fz : ∀ o, w.frozen? ⟨b, o, none⟩ = false

def upd (g : Nat → Nat) (i v : Nat) : Nat → Nat := fun j => if j = i then v else g j

theorem cell_set_ne {w : World} {b i j : Nat} {v : Value} (h : i ≠ j) : (w.setCell ⟨b, i, none⟩ v).cell? ⟨b, j, none⟩ = w.cell? ⟨b, j, none⟩ := by
  simp [go_sem]
theorem cell_set_eq {w : World} {b i : Nat} {u v : Value} (h : w.cell? ⟨b, i, none⟩ = some u) : (w.setCell ⟨b, i, none⟩ v).cell? ⟨b, i, none⟩ = some v := by
  simp [go_sem, h]
theorem fz_set {w : World} {b i : Nat} {v : Value} (h : ∀ o, w.frozen? ⟨b, o, none⟩ = false) : ∀ o, (w.setCell ⟨b, i, none⟩ v).frozen? ⟨b, o, none⟩ = false := fun o => by
  rw [World.frozen?_setCell]; exact h o

theorem DecAt.setD {w : World} {b : Nat} {neg : Bool} {S : DS} (h : DecAt w b neg S) (i v : Nat) (hi : i < 800) : DecAt (w.setCell ⟨b, i, none⟩ (.int .u8 v)) b neg { S with g := upd S.g i v } where
  d j hj := by
    by_cases e : j = i
    · subst e; rw [cell_set_eq (h.d j hj)]; simp [upd]
    · rw [cell_set_ne (fun h => e h.symm), h.d j hj]; simp [upd, e]
  nd := by rw [cell_set_ne (by omega)]; exact h.nd
  dp := by rw [cell_set_ne (by omega)]; exact h.dp
  neg := by rw [cell_set_ne (by omega)]; exact h.neg
  tr := by rw [cell_set_ne (by omega)]; exact h.tr
  fz := fz_set h.fz
theorem DecAt.setNd {w : World} {b : Nat} {neg : Bool} {S : DS} (h : DecAt w b neg S) (n : Nat) : DecAt (w.setCell ⟨b, 800, none⟩ (.int .i64 n)) b neg { S with nd := n } where
  d j hj := by rw [cell_set_ne (by omega)]; exact h.d j hj
  nd := cell_set_eq h.nd
  dp := by rw [cell_set_ne (by omega)]; exact h.dp
  neg := by rw [cell_set_ne (by omega)]; exact h.neg
  tr := by rw [cell_set_ne (by omega)]; exact h.tr
  fz := fz_set h.fz
theorem DecAt.setDp {w : World} {b : Nat} {neg : Bool} {S : DS} (h : DecAt w b neg S) (n : Int) : DecAt (w.setCell ⟨b, 801, none⟩ (.int .i64 n)) b neg { S with dp := n } where
  d j hj := by rw [cell_set_ne (by omega)]; exact h.d j hj
  nd := by rw [cell_set_ne (by omega)]; exact h.nd
  dp := cell_set_eq h.dp
  neg := by rw [cell_set_ne (by omega)]; exact h.neg
  tr := by rw [cell_set_ne (by omega)]; exact h.tr
  fz := fz_set h.fz
theorem DecAt.setTr {w : World} {b : Nat} {neg : Bool} {S : DS} (h : DecAt w b neg S) (t : Bool) : DecAt (w.setCell ⟨b, 803, none⟩ (.bool t)) b neg { S with tr := t } where
  d j hj := by rw [cell_set_ne (by omega)]; exact h.d j hj
  nd := by rw [cell_set_ne (by omega)]; exact h.nd
  dp := by rw [cell_set_ne (by omega)]; exact h.dp
  neg := by rw [cell_set_ne (by omega)]; exact h.neg
  tr := cell_set_eq h.tr
  fz := fz_set h.fz
theorem DecAt.drewN {w : World} {b : Nat} {neg : Bool} {S : DS} (h : DecAt w b neg S) (n : Nat) : DecAt (w.drewN n) b neg S := ⟨h.d, h.nd, h.dp, h.neg, h.tr, h.fz⟩
theorem DecAt.below {w w' : World} {b B : Nat} {neg : Bool} {S : DS} (h : DecAt w b neg S) (hb : Below B w w') (hB : b < B) : DecAt w' b neg S where
  d j hj := by rw [hb.cell hB]; exact h.d j hj
  nd := by rw [hb.cell hB]; exact h.nd
  dp := by rw [hb.cell hB]; exact h.dp
  neg := by rw [hb.cell hB]; exact h.neg
  tr := by rw [hb.cell hB]; exact h.tr
  fz o := by rw [hb.frozen hB]; exact h.fz o

/-- digits without the zeros at the end -/
def trimN (g : Nat → Nat) : Nat → Nat
  | 0 => 0
  | n + 1 => if g n = 48 then trimN g n else n + 1
def trimS (S : DS) : DS := { S with nd := trimN S.g S.nd, dp := if trimN S.g S.nd = 0 then 0 else S.dp }

set_option maxHeartbeats 1000000 in
set_option maxRecDepth 100000 in
theorem trim_any (b : Nat) (neg : Bool) (S : DS) (w : World) (h : DecAt w b neg S) (hn : S.nd ≤ 800) :
    Calls Tryz.prog 118 #[.pointer (some ⟨b, 0, none⟩)] w fun e w' => e = .returned (.tuple #[]) ∧ DecAt w' b neg (trimS S) ∧ Below b w w' := by
  have H := Lib.hid h
  have HN := Lib.hid hn
  clear h hn
  go_enter Tryz.func118, Tryz.ntmps118
  go_wp2_with fail
  go_loopg [] S.nd (fun k wr => k ≤ 800 ∧ Hid (DecAt wr b neg { S with nd := k }) ∧ Hid (trimN S.g k = trimN S.g S.nd) ∧ Below b w wr)
  case atStart => exact ⟨HN.out, H.out, rfl, Below.refl _ _⟩
  case round =>
    obtain ⟨hk, hd, ht, hb⟩ := hrel
    have c0 := hd.out.nd
    have c1 := hd.out.fz
    simp only at c0
    have c3 := hd.out.dp
    simp only at c3
    cases gk with
    | zero =>
      have c0' : wr.cell? ⟨b, 800, none⟩ = some (.int .i64 0) := c0
      clear c0
      go_upto_region 0 with fail
      go_quiet (fail)
      go_wp2_with fail
      go_end0
      have ht' : trimN S.g S.nd = 0 := ht.out.symm
      refine ⟨rfl, ?_, Below.setCell (p := ⟨b, 801, none⟩) (below_drewN hb _) (Nat.le_refl b) _⟩
      have := (hd.out.drewN nq).setDp 0
      unfold trimS
      rw [ht', if_pos rfl]
      exact this
    | succ k =>
      have hc : decide ((0 : Int) < ((k + 1 : Nat) : Int)) = true := by simp only [decide_eq_true_eq]; omega
      have c2 := hd.out.d k (by omega)
      simp only at c2
      have ek : ((k + 1 : Nat) : Int) = (k : Int) + 1 := by omega
      rw [ek] at c0 hc
      clear ek
      by_cases h48 : S.g k = 48
      · have e48 : ((S.g k : Int) == 48) = true := by simp only [beq_iff_eq]; omega
        have H48 := Lib.hid h48
        clear h48
        go_upto_region 0 with fail
        go_quiet (fail)
        go_wp2_with fail
        go_roundg k
        case measure => omega
        case rel =>
          refine ⟨by omega, (hd.out.drewN nq).setNd k, ?_, Below.setCell (p := ⟨b, 800, none⟩) (below_drewN hb _) (Nat.le_refl b) _⟩
          have e : trimN S.g (k + 1) = trimN S.g k := by
            show (if S.g k = 48 then _ else _) = _
            rw [if_pos H48.out]
          exact e.symm.trans ht.out
      · have e48 : ((S.g k : Int) == 48) = false := by simp only [beq_eq_false_iff_ne, ne_eq]; omega
        have H48 := Lib.hid h48
        clear h48
        have hk1 : ((k : Int) + 1 == 0) = false := by simp only [beq_eq_false_iff_ne, ne_eq]; omega
        go_upto_region 0 with fail
        go_quiet (fail)
        go_wp2_with fail
        go_end0
        have ht' : trimN S.g S.nd = k + 1 := by
          have e : trimN S.g (k + 1) = k + 1 := by
            show (if S.g k = 48 then _ else _) = _
            rw [if_neg H48.out]
          exact ht.out.symm.trans e
        refine ⟨rfl, ?_, below_drewN hb _⟩
        unfold trimS
        rw [ht', if_neg (by omega)]
        exact hd.out.drewN nq

theorem drew3 (w : World) (a b c : Nat) : ∃ n, ((w.drewN a).drewN b).drewN c = w.drewN n := ⟨a + b + c, by simp [go_sem]⟩

/-- prefixIsLessThan: the digits g 0 .. g (nd - 1) from place i on against the bytes l -/
def plt (g : Nat → Nat) (nd : Nat) : Nat → List UInt8 → Bool
  | _, [] => false
  | i, c :: l => if nd ≤ i then true else if g i ≠ c.toNat then decide (g i < c.toNat) else plt g nd (i + 1) l

set_option maxHeartbeats 1000000 in
set_option maxRecDepth 100000 in
theorem plt_any (b : Nat) (g : Nat → Nat) (nd : Nat) (cap : Nat) (s : ByteArray) (w : World) (h : ∀ i, i < nd → w.cell? ⟨b, i, none⟩ = some (.int .u8 (g i))) (hn : nd ≤ 800) (hs : s.size ≤ 100) :
    Calls Tryz.prog 117 #[.slice (some ⟨b, 0, none⟩) nd cap, .string s] w fun e w' => e = .returned (.bool (plt g nd 0 s.data.toList)) ∧ ∃ n, w' = w.drewN n := by
  have H := Lib.hid h
  clear h
  go_enter Tryz.func117, Tryz.ntmps117
  go_wp2_with fail
  go_loopw [5] (fun iv wr => ∃ i : Nat, i ≤ s.size ∧ iv = .int .i64 i ∧ Hid (plt g nd i (s.data.toList.drop i) = plt g nd 0 s.data.toList) ∧ ∃ n, wr = w.drewN n) (fun iv _ => s.size - (intOf iv).toNat)
  case atStart => exact ⟨0, by omega, rfl, rfl, 0, rfl⟩
  case round =>
    obtain ⟨i, hi, rfl, hp, n, rfl⟩ := hrel
    by_cases hi2 : i < s.size
    · have hdr : s.data.toList.drop i = s[i] :: s.data.toList.drop (i + 1) := drop_cons_of hi2
      rw [hdr] at hp
      have HP := Lib.hid hp
      clear hp hdr
      by_cases hnd : nd ≤ i
      · go_wp2_with fail
        go_ret
        have e : plt g nd i (s[i] :: s.data.toList.drop (i + 1)) = true := by
          show (if nd ≤ i then _ else _) = _
          rw [if_pos hnd]
        exact ⟨congrArg Ending.returned (congrArg Value.bool (e.symm.trans HP.out.out)), n, rfl⟩
      · have c0 := H.out i (by omega)
        have hlt : (i : Int) < (nd : Int) := by omega
        have hls : (i : Int) < (s.size : Int) := by omega
        cases hq : ((g i : Int) != (s[i].toNat : Int))
        · go_upto_region 6 with fail
          go_quiet (fail)
          go_wp2_with fail
          go_roundw
          case rel =>
            refine ⟨i + 1, by omega, rfl, ?_, n + nq, rfl⟩
            have hq2 : ¬ g i ≠ s[i].toNat := by simp only [bne_eq_false_iff_eq] at hq; omega
            have e : plt g nd i (s[i] :: s.data.toList.drop (i + 1)) = plt g nd (i + 1) (s.data.toList.drop (i + 1)) := by
              show (if nd ≤ i then _ else if g i ≠ s[i].toNat then _ else _) = _
              rw [if_neg hnd, if_neg hq2]
            exact e.symm.trans HP.out.out
          case measure => simp [intOf]; omega
        · go_upto_region 6 with fail
          go_quiet (fail)
          go_upto_region 7 with fail
          go_quiet (fail)
          go_wp2_with fail
          go_ret
          have hq2 : g i ≠ s[i].toNat := by simp only [bne_iff_ne, ne_eq] at hq; omega
          have e : plt g nd i (s[i] :: s.data.toList.drop (i + 1)) = decide (g i < s[i].toNat) := by
            show (if nd ≤ i then _ else if g i ≠ s[i].toNat then _ else _) = _
            rw [if_neg hnd, if_pos hq2]
          have e2 : decide ((g i : Int) < (s[i].toNat : Int)) = decide (g i < s[i].toNat) := by simp only [decide_eq_decide]; omega
          refine ⟨congrArg Ending.returned (congrArg Value.bool ?_), drew3 _ _ _ _⟩
          refine Eq.trans ?_ (e.symm.trans HP.out.out)
          rw [← e2]
    · have hdr : s.data.toList.drop i = [] := by rw [List.drop_eq_nil_iff]; simp; omega
      rw [hdr] at hp
      go_wp2_with fail
      go_ret
      exact ⟨congrArg Ending.returned (congrArg Value.bool hp.out), n, rfl⟩

end Go.Proofs.YtfmkfnochjeleaaGreatDoor
