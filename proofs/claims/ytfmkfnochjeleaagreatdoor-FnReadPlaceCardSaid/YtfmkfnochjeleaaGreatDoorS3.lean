import Derived.Test.YtfmkfnochjeleaaGreatDoorS2
import Derived.Test.YtfmkfnochjeleaaGreatDoorSh
namespace Go.Proofs.YtfmkfnochjeleaaGreatDoor
open Go.RowKit

theorem oneCells (l : List UInt8) : ∀ v ∈ Lib.byteCells l, v.oneCell' = true := by
  intro v hv
  obtain ⟨x, _, rfl⟩ := List.mem_map.1 hv
  rfl

set_option maxHeartbeats 1000000 in
set_option maxRecDepth 100000 in
/-- Write, the source lying in the parser's own block, ahead of the buffer -/
theorem write_any (B b : Nat) (K : PS) (l cs : List UInt8) (k n c : Nat) (w : World) (h : SAt B b K l w) (hBw : B ≤ w.heap.size) (hn : cs.length = n) (hk : k + n ≤ 1025)
    (hsrc : ∀ j, j < n → K.buf (k + j) = (cs.getD j 0).toNat) (hlim : l.length ≤ 3000) :
    Calls Tryz.prog 74 #[.pointer (some ⟨b, 1033, none⟩), .slice (some ⟨b, 1 + k, none⟩) n c] w fun e w' => e = .returned (.tuple #[.int .i64 n, .nilIface]) ∧ SAt B b K (l ++ cs) w' ∧ Below B w w' ∧ Lib.OthersKept 5 (some b) w w' := by
  have h' := LibA.IsBuffer.setLast h 0
  obtain ⟨hB, v0, lr, hbk, -, -⟩ := id h
  have c2 : w.cell? ⟨b, 1033 + 2, none⟩ = some (.int .i8 lr) := hbk.c2
  have f2 : w.frozen? ⟨b, 1033 + 2, none⟩ = false := hbk.f (1033 + 2)
  obtain ⟨w0, hw0⟩ : ∃ w0, w0 = w.setCell ⟨b, 1033 + 2, none⟩ (.int .i8 0) := ⟨_, rfl⟩
  have hbel0 : Below B w w0 := by rw [hw0]; exact (Below.refl B w).setCell (p := ⟨b, 1033 + 2, none⟩) hB _
  have hk0 : Lib.OthersKept 5 (some b) w w0 := by rw [hw0]; exact (Lib.OthersKept.refl _ _ w).setCell ⟨b, 1033 + 2, none⟩ rfl _
  have hBw' : B ≤ w0.heap.size := Nat.le_trans hBw hbel0.size
  rw [← hw0] at h'
  have hinfo : (Tryz.prog.info? 5).map (·.size) = some 1 := by kernel_rfl
  have hlen : (Lib.byteCells l).length = l.length := List.length_map _
  have hcl : (Lib.byteCells cs).length = n := (List.length_map _).trans hn
  have H' := Lib.hid h'
  have HB := Lib.hid hbel0
  have HK := Lib.hid hk0
  have HW0 := Lib.hid hw0
  clear hbk v0 h' hbel0 hk0 hw0
  have HS1 : Hid (∀ W1 xs, LibA.IsBuffer 78 (RK K) 5 B b 1033 xs W1 → ∀ j v, (Lib.byteCells cs)[j]? = some v → W1.cell? ((⟨b, 1 + k, none⟩ : Addr).add j) = some v) := by
    intro W1 xs hI j v hj
    have hjn : j < n := by
      have := (List.getElem?_eq_some_iff.1 hj).1
      rwa [hcl] at this
    have e : (⟨b, 1 + k, none⟩ : Addr).add j = ⟨b, 1 + (k + j), none⟩ := by
      rw [Lib.addr_add, show 1 + k + j = 1 + (k + j) by omega]
    rw [e, hI.rest _ (.inl (by omega))]
    unfold RK
    rw [if_neg (by omega), if_pos (by omega), show 1 + (k + j) - 1 = k + j by omega, hsrc j hjn]
    unfold Lib.byteCells at hj
    rw [List.getElem?_map, List.getElem?_eq_getElem (show j < cs.length by omega)] at hj
    rw [List.getD_eq_getElem?_getD, List.getElem?_eq_getElem (show j < cs.length by omega)]
    exact hj
  have T103 := Lib.hid (Tryz.Buffer_tryGrow_at 78 (RK K) B b 1033 n (Lib.byteCells l) w0 H'.out)
  have T104 := Lib.hid (fun hnr => Tryz.Buffer_grow_at 78 (RK K) B b 1033 n (Lib.byteCells l) w0 H'.out hnr hBw' (oneCells l) (by rw [hlen]; omega))
  rw [hlen] at T103 T104
  clear hsrc
  have hHW := HW0.out
  clear HW0
  subst hHW
  by_cases hs0 : n = 0
  · subst hs0
    have hc0 : cs = [] := List.eq_nil_of_length_eq_zero hn
    subst hc0
    have hce : ∀ d dLen dCap W, (Builtin.copy_ #[59, 59] 3 #[.slice d dLen dCap, .slice (some ⟨b, 1 + k, none⟩) 0 c]).run Tryz.prog W = .ok (goInt 0) W := fun d dLen dCap W => run_copy_none W 59 59 3 5 d (some ⟨b, 1 + k, none⟩) dLen dCap 0 c Tryz.underlying59 hinfo (by simp)
    go_enter Tryz.func74, Tryz.ntmps74
    go_wp2_with (go_at_call 103; refine T103.out.mono ?_)
    rintro e W1 (⟨rfl, xs, hxl, hI, hbel, hk2, hg⟩ | ⟨rfl, rfl, hnr⟩)
    · have hx0 : xs = [] := List.eq_nil_of_length_eq_zero hxl
      subst hx0
      rw [List.append_nil] at hI
      obtain ⟨-, lr2, hc⟩ := hI.cases
      rcases hc with ⟨hb0, hbk2⟩ | ⟨g, cap, cur, hbk2, -, -, hnc, hcm, -, -, -⟩
      · have d0 : W1.cell? ⟨b, 1033, none⟩ = some (.slice none 0 0) := hbk2.c0
        have hl0 : l.length = 0 := by rw [← hlen, hb0]; rfl
        have HI := Lib.hid hI
        have HBL := Lib.hid (HB.out.trans hbel)
        have HKK := Lib.hid (HK.out.trans hk2)
        clear hI hbel hk2 hg hbk2
        rw [hl0]
        go_wp2_with fail
        go_ret2
        refine ⟨rfl, ?_, HBL.out, HKK.out⟩
        rw [List.append_nil]
        exact HI.out
      · have d0 := hbk2.c0
        unfold maxLen at hcm
        rw [hlen] at d0 hnc
        have HI := Lib.hid hI
        have HBL := Lib.hid (HB.out.trans hbel)
        have HKK := Lib.hid (HK.out.trans hk2)
        clear hI hbel hk2 hg hbk2
        go_wp2_with fail
        all_goals
          go_ret2
          refine ⟨rfl, ?_, HBL.out, HKK.out⟩
          exact HI.out
    · obtain ⟨_, _, _, _, hlt⟩ := hnr
      omega
  · go_enter Tryz.func74, Tryz.ntmps74
    go_wp2_with (go_at_call 103; refine T103.out.mono ?_)
    rintro e W1 (⟨rfl, xs, hxl, hI, hbel, hk2, hg⟩ | ⟨rfl, rfl, hnr⟩)
    · have HS2 := HS1.out W1 _ hI
      have hbelW := HB.out.trans hbel
      have hkW := HK.out.trans hk2
      obtain ⟨-, lr2, hc⟩ := hI.cases
      rcases hc with ⟨hnil, -⟩ | ⟨g, cap, cur, hbk2, hBg, hg2, hnc, hcm, hcs, htk, hgb⟩
      · exact absurd (congrArg List.length hnil) (by rw [List.length_append, hxl, List.length_nil]; omega)
      · rw [List.length_append, hxl, hlen] at hbk2 hnc htk
        have d0 : W1.cell? ⟨b, 1033, none⟩ = some (.slice (some ⟨g, 0, none⟩) (l.length + n) cap) := hbk2.c0
        have hne : ¬ cap = l.length := by omega
        have hcp := run_copy_row (P := Tryz.prog) W1 59 59 3 5 g l.length n (cap - l.length) ⟨b, 1 + k, none⟩ n c cur 5 (Lib.byteCells cs) Tryz.underlying59 hinfo hg2 (by rw [hcl]; exact (Nat.min_self n).symm) HS2 (by rw [hcl]; omega) (oneCells cs)
        rw [hcl] at hcp
        obtain ⟨r1, r2⟩ := LibA.written_end (news := Lib.byteCells cs) (l := l.length) hB (by rw [hcl]; exact hbk2) hBg hg2 hcm hcs hgb (by rw [hcl]; exact hnc)
        have e1 : cur.toList.take l.length = Lib.byteCells l := by
          have h3 := congrArg (List.take l.length) htk
          rw [List.take_take, Nat.min_eq_left (Nat.le_add_right _ _), List.take_left' hlen] at h3
          exact h3
        rw [e1, hcl, List.append_assoc] at r1 r2
        have R1 := Lib.hid r1
        have R2 := Lib.hid (hbelW.trans r2)
        have R3 := Lib.hid (hkW.setRow hg2 (Lib.byteCells l ++ (Lib.byteCells cs ++ cur.toList.drop (l.length + n))).toArray)
        rw [e1] at hcp
        clear r1 r2 hbelW hkW hI hbel hk2 hg hbk2 htk hg2 hcs HS2
        have hcm' := hcm
        unfold maxLen at hcm'
        go_wp2_with fail
        go_ret2
        refine ⟨rfl, ?_, R2.out, R3.out⟩
        have e : Lib.byteCells (l ++ cs) = Lib.byteCells l ++ Lib.byteCells cs := List.map_append
        show LibA.IsBuffer 78 (RK K) 5 B b 1033 (Lib.byteCells (l ++ cs)) _
        rw [e]
        exact R1.out
    · go_wp2_with (go_at_call 104; refine (T104.out hnr).mono ?_)
      rintro e W1 ⟨rfl, xs, hxl, hI, hbel, hk2, hg⟩
      have HS2 := HS1.out W1 _ hI
      have hbelW := HB.out.trans hbel
      have hkW := HK.out.trans hk2
      obtain ⟨-, lr2, hc⟩ := hI.cases
      rcases hc with ⟨hnil, -⟩ | ⟨g, cap, cur, hbk2, hBg, hg2, hnc, hcm, hcs, htk, hgb⟩
      · exact absurd (congrArg List.length hnil) (by rw [List.length_append, hxl, List.length_nil]; omega)
      · rw [List.length_append, hxl, hlen] at hbk2 hnc htk
        have d0 : W1.cell? ⟨b, 1033, none⟩ = some (.slice (some ⟨g, 0, none⟩) (l.length + n) cap) := hbk2.c0
        have hne : ¬ cap = l.length := by omega
        have hcp := run_copy_row (P := Tryz.prog) W1 59 59 3 5 g l.length n (cap - l.length) ⟨b, 1 + k, none⟩ n c cur 5 (Lib.byteCells cs) Tryz.underlying59 hinfo hg2 (by rw [hcl]; exact (Nat.min_self n).symm) HS2 (by rw [hcl]; omega) (oneCells cs)
        rw [hcl] at hcp
        obtain ⟨r1, r2⟩ := LibA.written_end (news := Lib.byteCells cs) (l := l.length) hB (by rw [hcl]; exact hbk2) hBg hg2 hcm hcs hgb (by rw [hcl]; exact hnc)
        have e1 : cur.toList.take l.length = Lib.byteCells l := by
          have h3 := congrArg (List.take l.length) htk
          rw [List.take_take, Nat.min_eq_left (Nat.le_add_right _ _), List.take_left' hlen] at h3
          exact h3
        rw [e1, hcl, List.append_assoc] at r1 r2
        have R1 := Lib.hid r1
        have R2 := Lib.hid (hbelW.trans r2)
        have R3 := Lib.hid (hkW.setRow hg2 (Lib.byteCells l ++ (Lib.byteCells cs ++ cur.toList.drop (l.length + n))).toArray)
        rw [e1] at hcp
        clear r1 r2 hbelW hkW hI hbel hk2 hg hbk2 htk hg2 hcs HS2
        have hcm' := hcm
        unfold maxLen at hcm'
        go_wp2_with fail
        go_ret2
        refine ⟨rfl, ?_, R2.out, R3.out⟩
        have e : Lib.byteCells (l ++ cs) = Lib.byteCells l ++ Lib.byteCells cs := List.map_append
        show LibA.IsBuffer 78 (RK K) 5 B b 1033 (Lib.byteCells (l ++ cs)) _
        rw [e]
        exact R1.out

/-- Reset -/
theorem reset_any (B b : Nat) (K : PS) (l : List UInt8) (w : World) (h : SAt B b K l w) :
    Calls Tryz.prog 64 #[.pointer (some ⟨b, 1033, none⟩)] w fun e w' => e = .returned (.tuple #[]) ∧ SAt B b K [] w' ∧ Below B w w' ∧ (∀ k, k ≠ b → w'.heap[k]? = w.heap[k]?) := by
  obtain ⟨hB, lr, hc⟩ := LibA.IsBuffer.cases h
  have H := Lib.hid h
  rcases hc with ⟨hnil, h3⟩ | ⟨g, cap, cur, h3, hBg, hg, hnc, hcm, hcs, htk, hgb⟩
  · have c0 := h3.c0
    have c1 := h3.c1
    have c2 := h3.c2
    have f0 := h3.f
    go_enter Tryz.func64, Tryz.ntmps64
    go_wp2_with fail
    go_end0
    refine ⟨rfl, LibA.zero_isBuffer hB (((h3.set0 _).set1 _).set2 _), ((Below.setCell (p := ⟨b, 1033, none⟩) (Below.refl _ _) hB _).setCell (p := ⟨b, 1034, none⟩) hB _).setCell (p := ⟨b, 1035, none⟩) hB _, fun k hk => ?_⟩
    rw [Below.heap_setCell _ _ _ _ hk, Below.heap_setCell _ _ _ _ hk, Below.heap_setCell _ _ _ _ hk]
  · have c0 := h3.c0
    have c1 := h3.c1
    have c2 := h3.c2
    have f0 := h3.f
    have hcm' := hcm
    unfold maxLen at hcm'
    have hg2 : (((w.setCell ⟨b, 1033, none⟩ (.slice (some ⟨g, 0, none⟩) 0 cap)).setCell ⟨b, 1034, none⟩ (.int .i64 0)).setCell ⟨b, 1035, none⟩ (.int .i8 0)).heap[g]? = some (.cells cur 5 (0, 0)) := by
      rw [Below.heap_setCell _ _ _ _ hgb, Below.heap_setCell _ _ _ _ hgb, Below.heap_setCell _ _ _ _ hgb]
      exact hg
    have hI := LibA.isBuffer_mk (n := 0) hB (((h3.set0 (.slice (some ⟨g, 0, none⟩) 0 cap)).set1 (.int .i64 0)).set2 (.int .i8 0)) hBg hg2 (Nat.zero_le _) hcm hcs hgb
    have HI := Lib.hid hI
    clear hI hg2 htk hg hcs
    go_enter Tryz.func64, Tryz.ntmps64
    go_wp2_with fail
    go_end0
    refine ⟨rfl, HI.out, ((Below.setCell (p := ⟨b, 1033, none⟩) (Below.refl _ _) hB _).setCell (p := ⟨b, 1034, none⟩) hB _).setCell (p := ⟨b, 1035, none⟩) hB _, fun k hk => ?_⟩
    rw [Below.heap_setCell _ _ _ _ hk, Below.heap_setCell _ _ _ _ hk, Below.heap_setCell _ _ _ _ hk]

end Go.Proofs.YtfmkfnochjeleaaGreatDoor
