import Derived.Test.YtfmkfnochjeleaaGreatDoorP2
import Derived.Laws.Rows
namespace Go.Proofs.YtfmkfnochjeleaaGreatDoor
open Go.RowKit

/-- a scanner behind Init -/
def scanList (src : Value) (mode : Int) : List Value := (src :: .int .u8 128 :: List.replicate 1024 (.int .u8 0)) ++ ([.int .i64 0, .int .i64 0, .int .i64 0, .int .i64 1, .int .i64 0, .int .i64 0, .int .i64 0, .slice none 0 0, .int .i64 0, .int .i8 0, .int .i64 (-1), .int .i64 0, .int .i32 (-2), .nilFunc, .int .i64 0, .int .u64 mode, .int .u64 4294977024, .nilFunc, .string ⟨#[]⟩, .int .i64 0, .int .i64 0, .int .i64 0] : List Value)
theorem zero73 : Tryz.zeroCells73 = (((.nilIface :: .int .u8 0 :: List.replicate 1024 (.int .u8 0)) : List Value) ++ ([.int .i64 0, .int .i64 0, .int .i64 0, .int .i64 0, .int .i64 0, .int .i64 0, .int .i64 0, .slice none 0 0, .int .i64 0, .int .i8 0, .int .i64 0, .int .i64 0, .int .i32 0, .nilFunc, .int .i64 0, .int .u64 0, .int .u64 0, .nilFunc, .string ⟨#[]⟩, .int .i64 0, .int .i64 0, .int .i64 0] : List Value)).toArray := by kernel_rfl

theorem init_cells (src : Value) : ((((((((((((((((Tryz.zeroCells73.setIfInBounds 0 src).setIfInBounds 1 (.int .u8 128)).setIfInBounds 1026 (.int .i64 0)).setIfInBounds 1027 (.int .i64 0)).setIfInBounds 1028 (.int .i64 0)).setIfInBounds 1029 (.int .i64 1)).setIfInBounds 1030 (.int .i64 0)).setIfInBounds 1031 (.int .i64 0)).setIfInBounds 1032 (.int .i64 0)).setIfInBounds 1036 (.int .i64 (-1))).setIfInBounds 1038 (.int .i32 (-2))).setIfInBounds 1039 .nilFunc).setIfInBounds 1040 (.int .i64 0)).setIfInBounds 1041 (.int .u64 1012)).setIfInBounds 1042 (.int .u64 4294977024)).setIfInBounds 1046 (.int .i64 0)) = (scanList src 1012).toArray := by kernel_rfl

set_option maxRecDepth 100000 in
set_option maxHeartbeats 4000000 in
theorem init34 (s0 : Nat) (src : Value) (w : World) (h : w.heap[s0]? = some (.cells Tryz.zeroCells73 73 (0, 0))) (u : TypeId) (sv : Value) (hs : src = .iface u sv) :
    Calls Tryz.prog 34 #[.pointer (some ⟨s0, 0, none⟩), src] w fun e w' => e = .returned (.pointer (some ⟨s0, 0, none⟩)) ∧ w'.heap[s0]? = some (.cells (scanList src 1012).toArray 73 (0, 0)) ∧ (∀ k, k ≠ s0 → w'.heap[k]? = w.heap[k]?) ∧ (∀ n, n ≤ s0 → Below n w w') := by
  subst hs
  have f0 : ∀ i, w.frozen? ⟨s0, i, none⟩ = false := fun i => Lib.frozen_of_heap h i
  have hc : ∀ i v, Tryz.zeroCells73[i]? = some v → w.cell? ⟨s0, i, none⟩ = some v := fun i v e => by rw [Lib.cell_of_heap h]; exact e
  have c0 := hc 0 .nilIface (by rw [zero73]; rfl)
  have c1 := hc 1 (.int .u8 0) (by rw [zero73]; rfl)
  have c26 := hc 1026 (.int .i64 0) (by rw [zero73]; rfl)
  have c27 := hc 1027 (.int .i64 0) (by rw [zero73]; rfl)
  have c28 := hc 1028 (.int .i64 0) (by rw [zero73]; rfl)
  have c29 := hc 1029 (.int .i64 0) (by rw [zero73]; rfl)
  have c30 := hc 1030 (.int .i64 0) (by rw [zero73]; rfl)
  have c31 := hc 1031 (.int .i64 0) (by rw [zero73]; rfl)
  have c32 := hc 1032 (.int .i64 0) (by rw [zero73]; rfl)
  have c36 := hc 1036 (.int .i64 0) (by rw [zero73]; rfl)
  have c38 := hc 1038 (.int .i32 0) (by rw [zero73]; rfl)
  have c39 := hc 1039 .nilFunc (by rw [zero73]; rfl)
  have c40 := hc 1040 (.int .i64 0) (by rw [zero73]; rfl)
  have c41 := hc 1041 (.int .u64 0) (by rw [zero73]; rfl)
  have c42 := hc 1042 (.int .u64 0) (by rw [zero73]; rfl)
  have c46 := hc 1046 (.int .i64 0) (by rw [zero73]; rfl)
  have H := Lib.hid h
  clear hc h
  go_enter Tryz.func34, Tryz.ntmps34
  go_wp2_with fail
  go_ret
  refine ⟨rfl, ?_, fun k hk => ?_, fun n hn => ?_⟩
  · rw [← init_cells]
    exact (Lib.heap_setCell_same (i := 1046) (Lib.heap_setCell_same (i := 1042) (Lib.heap_setCell_same (i := 1041) (Lib.heap_setCell_same (i := 1040) (Lib.heap_setCell_same (i := 1039) (Lib.heap_setCell_same (i := 1038) (Lib.heap_setCell_same (i := 1036) (Lib.heap_setCell_same (i := 1032) (Lib.heap_setCell_same (i := 1031) (Lib.heap_setCell_same (i := 1030) (Lib.heap_setCell_same (i := 1029) (Lib.heap_setCell_same (i := 1028) (Lib.heap_setCell_same (i := 1027) (Lib.heap_setCell_same (i := 1026) (Lib.heap_setCell_same (i := 1) (Lib.heap_setCell_same (i := 0) H.out _) _) _) _) _) _) _) _) _) _) _) _) _) _) _) _)
  · rw [Below.heap_setCell _ _ _ _ hk, Below.heap_setCell _ _ _ _ hk, Below.heap_setCell _ _ _ _ hk, Below.heap_setCell _ _ _ _ hk, Below.heap_setCell _ _ _ _ hk, Below.heap_setCell _ _ _ _ hk, Below.heap_setCell _ _ _ _ hk, Below.heap_setCell _ _ _ _ hk, Below.heap_setCell _ _ _ _ hk, Below.heap_setCell _ _ _ _ hk, Below.heap_setCell _ _ _ _ hk, Below.heap_setCell _ _ _ _ hk, Below.heap_setCell _ _ _ _ hk, Below.heap_setCell _ _ _ _ hk, Below.heap_setCell _ _ _ _ hk, Below.heap_setCell _ _ _ _ hk]

  · exact (Below.setCell (p := ⟨s0, 1046, none⟩) (Below.setCell (p := ⟨s0, 1042, none⟩) (Below.setCell (p := ⟨s0, 1041, none⟩) (Below.setCell (p := ⟨s0, 1040, none⟩) (Below.setCell (p := ⟨s0, 1039, none⟩) (Below.setCell (p := ⟨s0, 1038, none⟩) (Below.setCell (p := ⟨s0, 1036, none⟩) (Below.setCell (p := ⟨s0, 1032, none⟩) (Below.setCell (p := ⟨s0, 1031, none⟩) (Below.setCell (p := ⟨s0, 1030, none⟩) (Below.setCell (p := ⟨s0, 1029, none⟩) (Below.setCell (p := ⟨s0, 1028, none⟩) (Below.setCell (p := ⟨s0, 1027, none⟩) (Below.setCell (p := ⟨s0, 1026, none⟩) (Below.setCell (p := ⟨s0, 1, none⟩) (Below.setCell (p := ⟨s0, 0, none⟩) (Below.refl n w) hn _) hn _) hn _) hn _) hn _) hn _) hn _) hn _) hn _) hn _) hn _) hn _) hn _) hn _) hn _) hn _)

theorem new35 (T : ByteArray) (w : World) : Calls Tryz.prog 35 #[.string T] w fun e w' => e = .returned (.pointer (some ⟨w.heap.size, 0, none⟩)) ∧ w' = w.alloc (.cells #[.string T, .int .i64 0, .int .i64 (-1)] 108) := by
  go_enter Tryz.func35, Tryz.ntmps35
  go_wp2_with fail
  go_ret
  exact ⟨rfl, rfl⟩

theorem foldSet : ∀ (vs : List Value) (k : Nat) (cs : Array Value), k + vs.length ≤ cs.size → (vs.zipIdx k).foldl (fun (cs : Array Value) x => cs.setIfInBounds (0 + x.2) x.1) cs = (cs.toList.take k ++ vs ++ cs.toList.drop (k + vs.length)).toArray
  | [], k, cs, _ => by simp
  | v :: vs, k, cs, h => by
    have hl : (v :: vs).length = vs.length + 1 := rfl
    rw [List.zipIdx_cons, List.foldl_cons, foldSet vs (k + 1) _ (by simp; omega)]
    apply Array.toList_inj.1
    simp only [Nat.zero_add]
    apply List.ext_getElem?
    intro i
    have hk : k < cs.size := by omega
    simp only [Array.toList_setIfInBounds]
    by_cases h1 : i < k
    · rw [List.getElem?_append_left (by simp; omega), List.getElem?_append_left (by simp; omega), List.getElem?_append_left (by simp; omega), List.getElem?_append_left (by simp; omega)]
      rw [List.getElem?_take_of_lt (by omega), List.getElem?_take_of_lt h1, List.getElem?_set_ne (by omega)]
    · by_cases h2 : i = k
      · subst h2
        rw [List.getElem?_append_left (by simp; omega), List.getElem?_append_left (by simp; omega), List.getElem?_append_left (by simp; omega)]
        rw [List.getElem?_take_of_lt (by omega), List.getElem?_set_self (by simp; omega), List.getElem?_append_right (by simp; omega)]
        simp [Nat.min_eq_left (Nat.le_of_lt hk)]
      · have hlen1 : (List.take (k + 1) (cs.toList.set k v)).length = k + 1 := by simp; omega
        have hlen2 : (List.take k cs.toList).length = k := by simp; omega
        rw [List.append_assoc, List.append_assoc, List.getElem?_append_right (by rw [hlen1]; omega), List.getElem?_append_right (l₁ := List.take k cs.toList) (by rw [hlen2]; omega), hlen1, hlen2]
        obtain ⟨m, rfl⟩ : ∃ m, i = k + 1 + m := ⟨i - (k + 1), by omega⟩
        rw [show k + 1 + m - (k + 1) = m by omega, show k + 1 + m - k = m + 1 by omega]
        show _ = (vs ++ _)[m]?
        congr 2
        apply List.ext_getElem?
        intro j
        rw [List.getElem?_drop, List.getElem?_drop, List.getElem?_set_ne (by omega)]
        rw [hl, show k + (vs.length + 1) = k + 1 + vs.length by omega]

theorem foldSet0 (C : Array Value) (cs : Array Value) (h : C.size ≤ cs.size) : C.zipIdx.foldl (fun (cs : Array Value) (x : Value × Nat) => match x with | (c, j) => cs.setIfInBounds (0 + j) c) cs = (C.toList ++ cs.toList.drop C.size).toArray := by
  have := foldSet C.toList 0 cs (by simpa using h)
  rw [← Array.foldl_toList, Array.toList_zipIdx]
  simpa using this
theorem foldSet1 (C Z : Array Value) (h : C.size ≤ Z.size) : Array.foldl (fun cs x => cs.setIfInBounds x.snd x.fst) Z C.zipIdx 0 C.size = (C.toList ++ Z.toList.drop C.size).toArray := by
  have h1 := foldSet C.toList 0 Z (by simpa using h)
  have e : C.size = C.zipIdx.size := by simp
  have h2 : Array.foldl (fun (cs : Array Value) (x : Value × Nat) => cs.setIfInBounds x.snd x.fst) Z C.zipIdx 0 C.size = List.foldl (fun (cs : Array Value) (x : Value × Nat) => cs.setIfInBounds x.snd x.fst) Z C.zipIdx.toList := by
    rw [e, Array.foldl_toList]
  rw [h2, Array.toList_zipIdx]
  simpa using h1
theorem places75 (C : Array Value) : Tryz.prog.built 75 [(0, .agg C)] = Instr.fill ((#[(0, 1048), (1048, 1)] : Array (Nat × Nat))[·]?) Tryz.zeroCells75 [(0, .agg C)] := by kernel_rfl
theorem places78 (C : Array Value) : Tryz.prog.built 78 [(0, .agg C)] = Instr.fill ((#[(0, 1049)] : Array (Nat × Nat))[·]?) Tryz.zeroCells78 [(0, .agg C)] := by kernel_rfl
theorem zero75 : Tryz.zeroCells75.toList.drop 1048 = ([.string ⟨#[]⟩] : List Value) := by kernel_rfl
theorem built75 (C : Array Value) (h : C.size = 1048) : Tryz.prog.built 75 [(0, .agg C)] = some (C.toList ++ ([.string ⟨#[]⟩] : List Value)).toArray := by
  rw [places75]
  have hz : Tryz.zeroCells75.size = 1049 := Tryz.zeroCells75_size
  have hc : (Value.agg C).cells = C := rfl
  simp only [Instr.fill, hc]
  show (if (decide (C.size ≠ 1048) || decide (0 + C.size > Tryz.zeroCells75.size)) = true then none else some _) = _
  rw [if_neg (by simp; omega)]
  congr 1
  rw [foldSet0 C _ (by omega), h, zero75]
theorem built78 (C : Array Value) (h : C.size = 1049) : Tryz.prog.built 78 [(0, .agg C)] = some C := by
  rw [places78]
  have hz : Tryz.zeroCells78.size = 1049 := Tryz.zeroCells78_size
  have hc : (Value.agg C).cells = C := rfl
  simp only [Instr.fill, hc]
  show (if (decide (C.size ≠ 1049) || decide (0 + C.size > Tryz.zeroCells78.size)) = true then none else some _) = _
  rw [if_neg (by simp; omega)]
  congr 1
  rw [foldSet0 C _ (by omega), h, List.drop_of_length_le (by simp)]
  simp

theorem info73 : (Tryz.prog.info? 73).map (·.size) = some 1048 := by kernel_rfl
theorem info75 : (Tryz.prog.info? 75).map (·.size) = some 1049 := by kernel_rfl
theorem info78 : (Tryz.prog.info? 78).map (·.size) = some 1049 := by kernel_rfl
def lexList (src : Value) : List Value := scanList src 28 ++ ([.string ⟨#[]⟩] : List Value)
theorem mode_cells (src : Value) : (scanList src 1012).toArray.setIfInBounds 1041 (.int .u64 28) = (scanList src 28).toArray := by kernel_rfl
theorem scan_len (src : Value) (m : Int) : (scanList src m).length = 1048 := by
  unfold scanList
  rw [List.length_append, List.length_cons, List.length_cons, List.length_replicate]
  rfl
theorem scan_one (u : TypeId) (v : Value) (m : Int) : ∀ x ∈ scanList (.iface u v) m, x.oneCell' = true := by
  intro x hx
  unfold scanList at hx
  rcases List.mem_append.1 hx with hx | hx
  · rcases List.mem_cons.1 hx with rfl | hx
    · rfl
    · rcases List.mem_cons.1 hx with rfl | hx
      · rfl
      · rw [List.eq_of_mem_replicate hx]; rfl
  · simp only [List.mem_cons, List.not_mem_nil, or_false] at hx
    rcases hx with rfl | rfl | rfl | rfl | rfl | rfl | rfl | rfl | rfl | rfl | rfl | rfl | rfl | rfl | rfl | rfl | rfl | rfl | rfl | rfl | rfl | rfl <;> rfl
theorem lex_one (u : TypeId) (v : Value) : (lexList (.iface u v)).toArray.all (·.oneCell') = true := by
  rw [Array.all_eq_true_iff_forall_mem]
  intro x hx
  have hx' : x ∈ lexList (.iface u v) := by simpa using hx
  unfold lexList at hx'
  rcases List.mem_append.1 hx' with hx | hx
  · exact scan_one u v 28 x hx
  · rw [List.mem_singleton.1 hx]; rfl

set_option maxRecDepth 100000 in
set_option maxHeartbeats 4000000 in
theorem new26 (T : ByteArray) (w : World) : Calls Tryz.prog 26 #[.string T] w fun e w' => e = .returned (.agg (lexList (.iface 89 (.pointer (some ⟨w.heap.size + 2, 0, none⟩)))).toArray) ∧ RdAt (w.heap.size + 2) T 0 w' ∧ Below w.heap.size w w' := by
  obtain ⟨n, hn⟩ : ∃ n, n = w.heap.size := ⟨_, rfl⟩
  obtain ⟨w1, hw1⟩ : ∃ w1, w1 = (w.alloc (.cells Tryz.zeroCells75 75)).alloc (.cells Tryz.zeroCells73 73) := ⟨_, rfl⟩
  have hs1 : w1.heap.size = n + 2 := by rw [hw1, hn]; show ((w.heap.push _).push _).size = _; rw [Array.size_push, Array.size_push]
  have hb1 : Below n w w1 := by rw [hw1, hn]; exact Below.alloc (Below.alloc (Below.refl _ _) (Nat.le_refl _) _) (by show _ ≤ (w.heap.push _).size; rw [Array.size_push]; omega) _
  have hr0 : w1.heap[n]? = some (.cells Tryz.zeroCells75 75 (0, 0)) := by rw [hw1, hn]; exact heap_alloc2_old w _ _
  have hs0 : w1.heap[n + 1]? = some (.cells Tryz.zeroCells73 73 (0, 0)) := by rw [hw1, hn]; exact heap_alloc2_new w _ _
  obtain ⟨rdo, hrdo⟩ : ∃ o : Obj, o = .cells #[.string T, .int .i64 0, .int .i64 (-1)] 108 := ⟨_, rfl⟩
  obtain ⟨w2, hw2⟩ : ∃ w2, w2 = w1.alloc rdo := ⟨_, rfl⟩
  have hrd2 : w2.heap[n + 2]? = some rdo := by rw [hw2, ← hs1]; exact heap_alloc_new w1 _
  have hb2 : Below n w w2 := by rw [hw2]; exact hb1.alloc (by omega) _
  have hr2 : w2.heap[n]? = some (.cells Tryz.zeroCells75 75 (0, 0)) := by rw [hw2, Below.heap_alloc _ _ _ (by omega)]; exact hr0
  have hs2 : w2.heap[n + 1]? = some (.cells Tryz.zeroCells73 73 (0, 0)) := by rw [hw2, Below.heap_alloc _ _ _ (by omega)]; exact hs0
  have C35 : Hid (Calls Tryz.prog 35 #[.string T] w1 fun e w' => e = .returned (.pointer (some ⟨n + 2, 0, none⟩)) ∧ w' = w2) := by
    refine (new35 T w1).mono ?_
    rintro e w' ⟨rfl, rfl⟩
    exact ⟨by rw [hs1], by rw [hw2, hrdo]⟩
  obtain ⟨src, hsrc⟩ : ∃ src, src = Value.iface 89 (.pointer (some ⟨n + 2, 0, none⟩)) := ⟨_, rfl⟩
  have C34 : Hid (Calls Tryz.prog 34 #[.pointer (some ⟨n + 1, 0, none⟩), .iface 89 (.pointer (some ⟨n + 2, 0, none⟩))] w2 fun e w' => e = .returned (.pointer (some ⟨n + 1, 0, none⟩)) ∧ w'.cell? ⟨n + 1, 1041, none⟩ = some (.int .u64 1012) ∧ (∀ i, w'.frozen? ⟨n + 1, i, none⟩ = false) ∧ Hid (w'.heap[n + 1]? = some (.cells (scanList src 1012).toArray 73 (0, 0)) ∧ w'.heap[n]? = some (.cells Tryz.zeroCells75 75 (0, 0)) ∧ w'.heap[n + 2]? = some rdo ∧ Below n w w')) := by
    rw [← hsrc]
    refine (init34 (n + 1) src w2 hs2 _ _ hsrc).mono ?_
    rintro e w' ⟨rfl, h1, h3, h4⟩
    exact ⟨rfl, by rw [Lib.cell_of_heap h1]; rfl, fun i => Lib.frozen_of_heap h1 i, h1, by rw [h3 n (by omega)]; exact hr2, by rw [h3 (n + 2) (by omega)]; exact hrd2, hb2.trans (h4 n (by omega))⟩
  have HN := Lib.hid hn
  have HW1 := Lib.hid hw1
  have HSRC := Lib.hid hsrc
  have HRDO := Lib.hid hrdo
  clear hw2 hrdo hb1 hb2 hr0 hs0 hr2 hs2 hrd2 hs1 hw1 hn hsrc
  go_enter Tryz.func26, Tryz.ntmps26
  go_upto_region 2 with fail
  rw [← HW1.out, ← HN.out]
  go_upto_region 4 with first | (go_at_call 35; refine C35.out.mono ?_; rintro e w3 ⟨rfl, rfl⟩) | (go_at_call 34; refine C34.out.mono ?_; rintro e w4 ⟨rfl, c1, f1, h4⟩)
  obtain ⟨w5, hw5⟩ : ∃ w5, w5 = w4.setCell ⟨n + 1, 1041, none⟩ (.int .u64 28) := ⟨_, rfl⟩
  rw [← hw5]
  have g1 : w5.heap[n + 1]? = some (.cells (scanList src 28).toArray 73 (0, 0)) := by
    rw [hw5, ← mode_cells]
    exact Lib.heap_setCell_same (i := 1041) h4.out.1 _
  have g2 : w5.heap[n]? = some (.cells Tryz.zeroCells75 75 (0, 0)) := by
    rw [hw5, Below.heap_setCell _ _ _ _ (by show n ≠ n + 1; omega)]
    exact h4.out.2.1
  have g3 : w5.heap[n + 2]? = some rdo := by
    rw [hw5, Below.heap_setCell _ _ _ _ (by show n + 2 ≠ n + 1; omega)]
    exact h4.out.2.2.1
  have g4 : Below n w w5 := by rw [hw5]; exact h4.out.2.2.2.setCell (p := ⟨n + 1, 1041, none⟩) (by show n ≤ n + 1; omega) _
  obtain ⟨C, hC⟩ : ∃ C, C = (scanList src 28).toArray := ⟨_, rfl⟩
  obtain ⟨L, hL⟩ : ∃ L, L = (lexList src).toArray := ⟨_, rfl⟩
  rw [← hC] at g1
  have hCs : C.size = 1048 := by rw [hC]; exact scan_len src 28
  have hLs : L.size = 1049 := by
    rw [hL]
    show (lexList src).length = _
    unfold lexList
    rw [List.length_append, scan_len]
    rfl
  have HFOLD : Hid (Array.foldl (fun cs x => cs.setIfInBounds x.snd x.fst) Tryz.zeroCells75 C.zipIdx 0 C.size = L) := by
    show _ = _
    rw [foldSet1 C _ (by rw [hCs, Tryz.zeroCells75_size]; decide), hCs, zero75, hC, hL]
    rfl
  have hLone : L.all (·.oneCell') = true := by rw [hL, HSRC.out]; exact lex_one _ _
  have hif : (Tryz.prog.info? 73).map (·.size) = some C.size := by rw [hCs]; exact info73
  have hif2 : (Tryz.prog.info? 75).map (·.size) = some L.size := by rw [hLs]; exact info75
  have hzs : Tryz.zeroCells75.size = L.size := by rw [hLs]; exact Tryz.zeroCells75_size
  have HL := Lib.hid hL
  have HG1 := Lib.hid g1
  have HG2 := Lib.hid g2
  have HG3 := Lib.hid g3
  have HG4 := Lib.hid g4
  have hfold : Array.foldl (fun cs x => cs.setIfInBounds x.snd x.fst) Tryz.zeroCells75 C.zipIdx 0 1048 = L := by rw [← HFOLD.out, hCs]
  clear hw5 h4 c1 f1 hC hL g1 g2 g3 g4
  go_wp2_with first | (refine wpList_load_row rfl 73 _ rfl (n + 1) rfl 73 C (0, 0) _ HG1.out Tryz.underlying73 rfl hif ?_) | (refine wpList_store_row rfl 75 _ _ rfl n L rfl rfl 75 Tryz.zeroCells75 HG2.out hif2 hzs hLone ?_)
  have k1 : (w5.setRow n L).heap[n]? = some (.cells L 75 (0, 0)) := setRow_heap w5 n Tryz.zeroCells75 L 75 (0, 0) HG2.out
  refine bodyPost_ret (v := .agg L) (results_cell_row (fn := Tryz.f26) (p := 2) (ty := 75) rfl _ _ n 75 L (0, 0) _ rfl k1 Tryz.underlying75 rfl hif2) rfl ⟨?_, ⟨-1, ?_⟩, ?_⟩
  · rw [HL.out, HSRC.out, ← HN.out]
  · rw [← HN.out, setRow_other w5 n (n + 2) L (by omega), HG3.out, HRDO.out]
    rfl
  · rw [← HN.out]
    exact HG4.out.trans ⟨rfl, rfl, rfl, by simp, fun k hk => setRow_other w5 n k L (by omega)⟩

theorem lex_len (src : Value) : (lexList src).length = 1049 := by
  unfold lexList
  rw [List.length_append, scan_len]
  rfl
set_option maxRecDepth 100000 in
set_option maxHeartbeats 4000000 in
theorem new19 (T : ByteArray) (w : World) : Calls Tryz.prog 19 #[.string T] w fun e w' => ∃ b, e = .returned (.pointer (some ⟨b, 0, none⟩)) ∧ Hid (w.heap.size + 2 < b ∧ w'.heap[b]? = some (.cells (lexList (.iface 89 (.pointer (some ⟨w.heap.size + 2, 0, none⟩)))).toArray 78 (0, 0)) ∧ RdAt (w.heap.size + 2) T 0 w' ∧ Below w.heap.size w w') := by
  obtain ⟨src, hsrc⟩ : ∃ src, src = Value.iface 89 (.pointer (some ⟨w.heap.size + 2, 0, none⟩)) := ⟨_, rfl⟩
  obtain ⟨L, hL⟩ : ∃ L, L = (lexList src).toArray := ⟨_, rfl⟩
  have hLs : L.size = 1049 := by rw [hL]; exact lex_len src
  have hfold : Array.foldl (fun cs x => cs.setIfInBounds x.snd x.fst) Tryz.zeroCells78 L.zipIdx 0 1049 = L := by
    have := foldSet1 L Tryz.zeroCells78 (by rw [hLs, Tryz.zeroCells78_size]; decide)
    rw [hLs, List.drop_of_length_le (by simp)] at this
    rw [this]
    simp
  have hLone : L.all (·.oneCell') = true := by rw [hL, hsrc]; exact lex_one _ _
  have hif : (Tryz.prog.info? 78).map (·.size) = some L.size := by rw [hLs]; exact info78
  have C26 : Hid (Calls Tryz.prog 26 #[.string T] w fun e w' => e = .returned (.agg L) ∧ Hid (RdAt (w.heap.size + 2) T 0 w' ∧ Below w.heap.size w w')) := by
    refine (new26 T w).mono ?_
    rintro e w' ⟨rfl, h1, h2⟩
    exact ⟨by rw [hL, hsrc], h1, h2⟩
  have HL := Lib.hid hL
  have HSRC := Lib.hid hsrc
  clear hL hsrc
  go_enter Tryz.func19, Tryz.ntmps19
  go_wp2_with (go_at_call 26; refine C26.out.mono ?_; rintro e w1 ⟨rfl, h1⟩)
  go_ret
  refine ⟨w1.heap.size, rfl, h1.out.1.lt, ?_, h1.out.1.of_heap (Below.heap_alloc _ _ _ h1.out.1.lt), h1.out.2.alloc h1.out.2.size _⟩
  rw [heap_alloc_new, HL.out, HSRC.out]

/-- the scanner at its start -/
def K0 (src : Value) : PS := { src := src, buf := fun k => if k = 0 then 128 else 0, sp := 0, se := 0, off := 0, line := 1, col := 0, lll := 0, lcl := 0, tp := -1, te := 0, ch := -2, ev := .nilFunc, ec := 0, mode := 28, ws := 4294977024, idr := .nilFunc, fname := .string ⟨#[]⟩, po := 0, pl := 0, pc := 0, pk := .string ⟨#[]⟩ }
def lexTail : List Value := [.int .i64 0, .int .i64 0, .int .i64 0, .int .i64 1, .int .i64 0, .int .i64 0, .int .i64 0, .slice none 0 0, .int .i64 0, .int .i8 0, .int .i64 (-1), .int .i64 0, .int .i32 (-2), .nilFunc, .int .i64 0, .int .u64 28, .int .u64 4294977024, .nilFunc, .string ⟨#[]⟩, .int .i64 0, .int .i64 0, .int .i64 0, .string ⟨#[]⟩]
theorem lexList_eq (src : Value) : lexList src = (src :: .int .u8 128 :: List.replicate 1024 (.int .u8 0)) ++ lexTail := by
  unfold lexList scanList lexTail
  rw [List.append_assoc]
  rfl
theorem head_len (src : Value) : ((src :: .int .u8 128 :: List.replicate 1024 (.int .u8 0)) : List Value).length = 1026 := by rw [List.length_cons, List.length_cons, List.length_replicate]
theorem lex_low (src : Value) (i : Nat) (hi : i < 1026) : (lexList src)[i]? = RK (K0 src) i := by
  rw [lexList_eq, List.getElem?_append_left (by rw [head_len]; exact hi)]
  rcases i with _ | _ | i
  · rfl
  · rfl
  · rw [List.getElem?_cons_succ, List.getElem?_cons_succ, List.getElem?_replicate, if_pos (by omega)]
    unfold RK
    rw [if_neg (by omega), if_pos (by omega)]
    show _ = some (Value.int .u8 ((if i + 1 + 1 - 1 = 0 then 128 else 0 : Nat) : Int))
    rw [if_neg (by omega)]
    rfl
theorem lex_high (src : Value) (j : Nat) : (lexList src)[1026 + j]? = lexTail[j]? := by
  rw [lexList_eq, List.getElem?_append_right (by rw [head_len]; omega), head_len, Nat.add_sub_cancel_left]
theorem lex_rest (src : Value) (i : Nat) (hi : i < 1033 ∨ 1036 ≤ i) : (lexList src)[i]? = RK (K0 src) i := by
  by_cases h : i < 1026
  · exact lex_low src i h
  · obtain ⟨j, rfl⟩ : ∃ j, i = 1026 + j := ⟨i - 1026, by omega⟩
    rw [lex_high]
    match j, hi with
    | 0, _ => rfl
    | 1, _ => rfl
    | 2, _ => rfl
    | 3, _ => rfl
    | 4, _ => rfl
    | 5, _ => rfl
    | 6, _ => rfl
    | 7, hi => omega
    | 8, hi => omega
    | 9, hi => omega
    | 10, _ => rfl
    | 11, _ => rfl
    | 12, _ => rfl
    | 13, _ => rfl
    | 14, _ => rfl
    | 15, _ => rfl
    | 16, _ => rfl
    | 17, _ => rfl
    | 18, _ => rfl
    | 19, _ => rfl
    | 20, _ => rfl
    | 21, _ => rfl
    | 22, _ => rfl
    | j + 23, _ =>
      rw [List.getElem?_eq_none (by show 23 ≤ _; omega)]
      unfold RK
      rw [if_neg (by omega), if_neg (by omega), if_neg (by omega), if_neg (by omega), if_neg (by omega), if_neg (by omega), if_neg (by omega), if_neg (by omega), if_neg (by omega), if_neg (by omega), if_neg (by omega), if_neg (by omega), if_neg (by omega), if_neg (by omega), if_neg (by omega), if_neg (by omega), if_neg (by omega), if_neg (by omega), if_neg (by omega), if_neg (by omega), if_neg (by omega), if_neg (by omega)]

theorem sat_start {B b : Nat} {src : Value} {w : World} (hB : B ≤ b) (h : w.heap[b]? = some (.cells (lexList src).toArray 78 (0, 0))) : SAt B b (K0 src) [] w := by
  refine LibA.zero_isBuffer hB (lr := 0) ⟨_, h, ?_, ?_, ?_, fun i hi => ?_⟩
  · rw [List.getElem?_toArray]; exact lex_high src 7
  · rw [List.getElem?_toArray]; exact lex_high src 8
  · rw [List.getElem?_toArray]; exact lex_high src 9
  · rw [List.getElem?_toArray]; exact lex_rest src i hi

theorem parse_start {T : ByteArray} {B b rb : Nat} {ts : List Tok} {w : World} (hB : B ≤ b) (h : w.heap[b]? = some (.cells (lexList (.iface 89 (.pointer (some ⟨rb, 0, none⟩)))).toArray 78 (0, 0))) (hr : RdAt rb T 0 w) (ht : tks T.size T.data.toList false = some ts) (hp : ∀ t ∈ ts, t.1 = 49 → ¬ pad0 t.2) : ParseAt T B b rb ts w := by
  refine ⟨hp, 0, K0 (.iface 89 (.pointer (some ⟨rb, 0, none⟩))), T.size, false, .inr ⟨rfl, rfl, [], 0, 0, 0, sat_start hB h, hr, ⟨rfl, rfl, rfl, Nat.le_refl _, by decide, by omega, fun k hk => absurd hk (Nat.not_lt_zero k), rfl⟩, rfl, rfl, Nat.zero_le _⟩, ⟨rfl, rfl, rfl, rfl, rfl⟩, Nat.zero_le _, by rw [List.drop_zero]; exact ht⟩

end Go.Proofs.YtfmkfnochjeleaaGreatDoor

namespace Go.Proofs.YtfmkfnochjeleaaGreatDoor
open Go.RowKit

def wid (d : Nat) : Nat := if d = 0 then 2 else if d = 3 then 4 else 3
def pNums : Nat → List Tok → Option (List Nat × List Tok)
  | 0, ts => some ([], ts)
  | n + 1, ts => match pNum ts with
    | none => none
    | some (x, r) => (pNums n r).map fun p => (x :: p.1, p.2)
theorem pNums_none {n : Nat} {ts : List Tok} (h : pNum ts = none) : pNums (n + 1) ts = none := by simp only [pNums, h]
theorem pNums_some {n x : Nat} {ts r : List Tok} (h : pNum ts = some (x, r)) : pNums (n + 1) ts = (pNums n r).map fun p => (x :: p.1, p.2) := by simp only [pNums, h]

set_option maxRecDepth 100000 in
theorem dim27 (d : Nat) (hd : d ≤ 3) (w : World) : Calls Tryz.prog 27 #[.int .u8 d] w fun e w' => e = .returned (.int .i64 (wid d)) ∧ w = w' := by
  have hd' : d = 0 ∨ d = 1 ∨ d = 2 ∨ d = 3 := by omega
  rcases hd' with rfl | rfl | rfl | rfl
  all_goals
    have i0 : ∀ w, (Instr.index 91 (.agg #[.int .i64 2, .int .i64 3, .int .i64 3, .int .i64 4]) (.int .u8 0)).run Tryz.prog w = .ok (.int .i64 2) w := fun _ => by kernel_rfl
    have i1 : ∀ w, (Instr.index 91 (.agg #[.int .i64 2, .int .i64 3, .int .i64 3, .int .i64 4]) (.int .u8 1)).run Tryz.prog w = .ok (.int .i64 3) w := fun _ => by kernel_rfl
    have i2 : ∀ w, (Instr.index 91 (.agg #[.int .i64 2, .int .i64 3, .int .i64 3, .int .i64 4]) (.int .u8 2)).run Tryz.prog w = .ok (.int .i64 3) w := fun _ => by kernel_rfl
    have i3 : ∀ w, (Instr.index 91 (.agg #[.int .i64 2, .int .i64 3, .int .i64 3, .int .i64 4]) (.int .u8 3)).run Tryz.prog w = .ok (.int .i64 4) w := fun _ => by kernel_rfl
    go_enter Tryz.func27, Tryz.ntmps27
    go_wp2_with fail
    go_ret
    exact ⟨rfl, rfl⟩
set_option maxRecDepth 100000 in
theorem dim13 (d : Nat) (hd : d ≤ 3) (w : World) : Calls Tryz.prog 13 #[.int .i64 d] w fun e w' => e = .returned (.int .u8 d) ∧ w = w' := by
  have hd' : d = 0 ∨ d = 1 ∨ d = 2 ∨ d = 3 := by omega
  rcases hd' with rfl | rfl | rfl | rfl
  all_goals
    go_enter Tryz.func13, Tryz.ntmps13
    go_wp2_with fail
    go_ret
    exact ⟨rfl, rfl⟩
set_option maxRecDepth 100000 in
theorem wid5 (d : Nat) (hd : d ≤ 3) (w : World) : Calls Tryz.prog 5 #[.int .i64 d] w fun e w' => e = .returned (.int .i64 (wid d)) ∧ w = w' := by
  have hd' : d = 0 ∨ d = 1 ∨ d = 2 ∨ d = 3 := by omega
  rcases hd' with rfl | rfl | rfl | rfl
  all_goals
    have b0 : bits .and .i64 0 1 = 0 := by decide
    have b1 : bits .and .i64 1 1 = 1 := by decide
    have b2 : bits .and .i64 2 1 = 0 := by decide
    have b3 : bits .and .i64 3 1 = 1 := by decide
    go_enter Tryz.func5, Tryz.ntmps5
    go_wp2_with fail
    go_ret
    exact ⟨rfl, rfl⟩

def flv (x : Nat) : Value := .float .f64 x
theorem info27 : (Tryz.prog.info? 27).map (fun i => (i.zero, i.size, i.bytes)) = some (some (.float .f64 0), 1, 8) := by kernel_rfl

/-- a row of numbers grows: the parser stays -/
theorem SAt.grown {B b : Nat} {K : PS} {l : List UInt8} {w w' : World} {row : Option Nat} (h : SAt B b K l w) (hg : w.grownBy w' row) (hb : ∀ g, row = some g → g ≠ b ∧ ∀ cs fz, w.heap[g]? ≠ some (.cells cs 5 fz)) : SAt B b K l w' := by
  have hlt := h.lt
  obtain ⟨hB, x, lr, h3, hown, hn⟩ := h
  refine ⟨hB, x, lr, h3.of_heap (hg.block b hlt (fun e => (hb b e.symm).1 rfl)), hown.kept hg ?_, hn⟩
  by_cases e : x.ownBlock = none
  · exact .inl e
  · refine .inr fun e2 => ?_
    rcases hown.2 with ⟨h0, _⟩ | ⟨g, cap, cur, hv, _, hgg, _⟩
    · rw [h0] at e; exact e rfl
    · rw [hv] at e2
      exact (hb g e2.symm).2 _ _ hgg
theorem ParseAt.grown {T : ByteArray} {B b rb : Nat} {ts : List Tok} {w w' : World} {row : Option Nat} (h : ParseAt T B b rb ts w) (hg : w.grownBy w' row) (hb : ∀ g, row = some g → g ≠ b ∧ g ≠ rb ∧ ∀ cs fz, w.heap[g]? ≠ some (.cells cs 5 fz)) : ParseAt T B b rb ts w' := by
  obtain ⟨hp, q, K, f, j, h1, h2⟩ := h
  refine ⟨hp, q, K, f, j, ?_, h2⟩
  have hs : ∀ K l, SAt B b K l w → SAt B b K l w' := fun K l h => h.grown hg fun g hg => ⟨(hb g hg).1, (hb g hg).2.2⟩
  have hr : ∀ i, RdAt rb T i w → RdAt rb T i w' := fun i h => h.of_heap (hg.block rb h.lt (fun e => (hb rb e.symm).2.1 rfl))
  rcases h1 with ⟨ts, l, ⟨⟨o, e', p, h1, h2, h3, h4, h5, h6⟩, h7, h8, h9, h10⟩, hc⟩ | ⟨h1, h2, l, o', e, p, h3, h4, h5⟩
  · exact .inl ⟨ts, l, ⟨⟨o, e', p, hs _ _ h1, hr _ h2, h3, h4, h5, h6⟩, h7, h8, h9, h10⟩, hc⟩
  · exact .inr ⟨h1, h2, l, o', e, p, hs _ _ h3, hr _ h4, h5⟩

theorem ParseAt.tags {T : ByteArray} {B b rb : Nat} {ts : List Tok} {w : World} (h : ParseAt T B b rb ts w) : (∃ cs, w.heap[b]? = some (.cells cs 78 (0, 0))) ∧ ∃ cs, w.heap[rb]? = some (.cells cs 108 (0, 0)) := by
  obtain ⟨hp, q, K, f, j, h1, h2⟩ := h
  have hs : ∀ K l, SAt B b K l w → ∃ cs, w.heap[b]? = some (.cells cs 78 (0, 0)) := fun K l h => by
    obtain ⟨hB, x, lr, ⟨cs, hc, _⟩, _⟩ := h
    exact ⟨cs, hc⟩
  rcases h1 with ⟨ts, l, ⟨⟨o, e', p, h1, h2, h3, h4, h5, h6⟩, h7, h8, h9, h10⟩, hc⟩ | ⟨h1, h2, l, o', e, p, h3, ⟨x, h4⟩, h5⟩
  · obtain ⟨x, h2⟩ := h2
    exact ⟨hs _ _ h1, _, h2⟩
  · exact ⟨hs _ _ h3, _, h4⟩
theorem row_apart {T : ByteArray} {B b rb n : Nat} {ts : List Tok} {v : Value} {xs : List Value} {w : World} (h : w.ownsRow B 27 1 v n xs) (hp : ParseAt T B b rb ts w) : ∀ g, v.ownBlock = some g → g ≠ b ∧ g ≠ rb ∧ ∀ cs fz, w.heap[g]? ≠ some (.cells cs 5 fz) := by
  intro g hg
  obtain ⟨⟨c1, h1⟩, ⟨c2, h2⟩⟩ := hp.tags
  rcases h.2 with ⟨h0, _⟩ | ⟨g', cap, cur, hv, _, hgg, _⟩
  · rw [h0] at hg; cases hg
  · rw [hv] at hg
    have e : g' = g := by simpa [Value.ownBlock] using hg
    subst e
    refine ⟨fun e => ?_, fun e => ?_, fun cs fz e => ?_⟩
    · subst e; rw [hgg] at h1; injection h1 with h1; injection h1 with _ h1 _; revert h1; decide
    · subst e; rw [hgg] at h2; injection h2 with h2; injection h2 with _ h2 _; revert h2; decide
    · rw [hgg] at e; injection e with e; injection e with _ e _; revert e; decide
theorem row_kept {T : ByteArray} {B b rb n : Nat} {ts : List Tok} {v : Value} {xs : List Value} {w w' : World} (h : w.ownsRow B 27 1 v n xs) (hp : ParseAt T B b rb ts w) (hk : KeptO b rb w w') : w'.ownsRow B 27 1 v n xs := by
  have ha := row_apart h hp
  refine ⟨h.1, ?_⟩
  rcases h.2 with h0 | ⟨g, cap, cur, hv, hb, hgg, hr⟩
  · exact .inl h0
  · refine .inr ⟨g, cap, cur, hv, hb, ?_, hr⟩
    have := ha g (by rw [hv]; rfl)
    exact hk g _ hgg this.1 this.2.1 (fun c fz e => by injection e with _ e _; revert e; decide)
theorem wid_le (d : Nat) : wid d ≤ 4 := by unfold wid; split <;> (try split) <;> omega
/-- what the reading of a place leaves -/
def PlacePost (n : Nat) (ts : List Tok) (B : Nat) (w : World) (e : Ending) (w' : World) : Prop :=
  (pNums n ts = none ∧ ∃ v, e = .returned (.tuple #[.slice none 0 0, .iface 96 v]) ∧ Below B w w') ∨
  (∃ l r v, pNums n ts = some (l, r) ∧ e = .returned (.tuple #[v, .nilIface]) ∧ Below B w w' ∧ w'.ownsRow B 27 1 v l.length (l.map flv))

set_option maxHeartbeats 4000000 in
set_option maxRecDepth 100000 in
theorem append20 (T : ByteArray) (B b rb d : Nat) (hd : d ≤ 3) (ts : List Tok) (w : World) (h : ParseAt T B b rb ts w) (hE : GEnv T B b rb w) :
    Calls Tryz.prog 20 #[.pointer (some ⟨b, 0, none⟩), .slice none 0 0, .int .u8 d] w (PlacePost (wid d) ts B w) := by
  obtain ⟨i0, hi, hz0, hz1, hz2⟩ := info_parts info27
  have C27 := Lib.hid (fun w => dim27 d hd w)
  obtain ⟨n, hn⟩ : ∃ n, n = wid d := ⟨_, rfl⟩
  rw [← hn] at C27 ⊢
  have hn4 : n ≤ 4 := by rw [hn]; exact wid_le d
  have HE := Lib.hid hE
  have HP := Lib.hid h
  clear hE h hn hd
  go_enter Tryz.func20, Tryz.ntmps20
  go_wp2_with fail
  go_loopw [1, 8] (fun sv iv wr => ∃ (k : Nat) (acc : List Nat) (tk : List Tok), k ≤ n ∧ iv = .int .i64 k ∧ Hid (acc.length = k) ∧ Hid (pNums n ts = (pNums (n - k) tk).map fun p => (acc ++ p.1, p.2)) ∧ Hid (ParseAt T B b rb tk wr) ∧ Hid (Below B w wr) ∧ Hid (wr.ownsRow B 27 1 sv k (acc.map flv))) (fun _ iv _ => n - (intOf iv).toNat)
  case atStart => exact ⟨0, [], ts, Nat.zero_le _, rfl, rfl, by show _ = _; cases pNums n ts <;> rfl, HP.out, Below.refl _ _, World.ownsRow_nil _ _ _ _⟩
  case round =>
    obtain ⟨k, acc, tk, hk, rfl, hal, hpn, hpa, hbe, hown⟩ := hrel
    by_cases hlt : k < n
    · have hE1 := HE.out.below hbe.out (Nat.le_refl _)
      have C28 := lit28 T B b rb tk wr hpa.out hE1
      cases hpk : pNum tk with
      | none =>
        have C28' : Hid (Calls Tryz.prog 28 #[.pointer (some ⟨b, 0, none⟩)] wr fun e w' => ∃ f v, e = .returned (.tuple #[.float .f64 f, .iface 96 v]) ∧ Hid (Below B wr w')) := by
          refine C28.mono ?_
          rintro e w' (⟨_, f, v, h1, h2⟩ | ⟨x, ts', h1, _⟩)
          · exact ⟨f, v, h1, h2⟩
          · rw [hpk] at h1; cases h1
        have HN : Hid (pNums n ts = none) := by
          show _ = _
          rw [hpn.out, show n - k = (n - k - 1) + 1 by omega, pNums_none hpk]
          rfl
        clear C28 hpk hE1
        go_wp2_with first | (go_at_call 27; refine (C27.out _).mono ?_; rintro e w' ⟨rfl, rfl⟩) | (go_at_call 28; refine C28'.out.mono ?_; rintro e w2 ⟨f, v, rfl, hb2⟩)
        go_ret2
        exact .inl ⟨HN.out, v, rfl, hbe.out.trans hb2.out⟩
      | some p =>
        obtain ⟨x, r⟩ := p
        have C28' : Hid (Calls Tryz.prog 28 #[.pointer (some ⟨b, 0, none⟩)] wr fun e w' => e = .returned (.tuple #[.float .f64 x, .nilIface]) ∧ Hid (ParseAt T B b rb r w' ∧ Below B wr w' ∧ KeptO b rb wr w')) := by
          refine C28.mono ?_
          rintro e w' (⟨h1, _⟩ | ⟨x', ts', h1, h2, h3, h4, h5⟩)
          · rw [hpk] at h1; cases h1
          · rw [hpk] at h1
            injection h1 with h1
            injection h1 with h1 h1'
            subst h1 h1'
            exact ⟨h2, h3, h4, h5⟩
        have HN : Hid (pNums n ts = (pNums (n - (k + 1)) r).map fun p => ((acc ++ [x]) ++ p.1, p.2)) := by
          show _ = _
          rw [hpn.out, show n - k = (n - (k + 1)) + 1 by omega, pNums_some hpk]
          cases pNums (n - (k + 1)) r <;> simp
        have K3 : Hid (k + 1 ≤ maxLen) := by show _ ≤ _; unfold maxLen; omega
        have K4 : Hid ((k + 1) * 8 ≤ 140737488355328) := by show _ ≤ _; omega
        have K5 : Hid (∀ w2, Hid (ParseAt T B b rb r w2 ∧ Below B wr w2 ∧ KeptO b rb wr w2) → B ≤ (w2.alloc (.cells #[.float .f64 x] 27)).heap.size) := fun w2 h2 => by
          have := h2.out.1.sat
          show B ≤ (w2.heap.push _).size
          rw [Array.size_push]; omega
        have K6 : Hid (∀ (w2 : World) (j : Nat) (u : Value), [flv x][j]? = some u → (w2.alloc (.cells #[.float .f64 x] 27)).cell? ((⟨w2.heap.size, 0, none⟩ : Addr).add j) = some u) := fun w2 j u h => cell_one_new w2 _ _ j u h
        have K7 : Hid (∀ w2, Hid (ParseAt T B b rb r w2 ∧ Below B wr w2 ∧ KeptO b rb wr w2) → (w2.alloc (.cells #[.float .f64 x] 27)).ownsRow B 27 1 u1 k (acc.map flv)) := fun w2 h2 => (row_kept hown.out hpa.out h2.out.2.2).alloc _
        clear C28 hpk hE1
        go_wp2_with first | (go_at_call 27; refine (C27.out _).mono ?_; rintro e w' ⟨rfl, rfl⟩) | (go_at_call 28; refine C28'.out.mono ?_; rintro e w2 ⟨rfl, hb2⟩) | (at_builtin; refine wpList_append_own _ rfl _ _ 25 rfl B 27 i0 (.float .f64 0) 1 8 Tryz.underlying25 hi hz0 hz1 hz2 rfl (by decide) _ _ _ rfl (K7.out _ hb2) ⟨_, 0, none⟩ 1 1 [flv x] rfl rfl (K6.out _) (one_one _ rfl) K3.out K4.out (K5.out _ hb2) ?_; intro v' w3 hown1 hgrow1 _; have HO1 := Lib.hid hown1; clear hown1; have HG1 := Lib.hid hgrow1; clear hgrow1; refine Hid.out ?_)
        refine Lib.hid ?_
        have HB3 : Hid (Below B w w3) := ((hbe.out.trans hb2.out.2.1).alloc (by have := hb2.out.1.sat; omega) _).grown HG1.out (by have := hb2.out.1.sat; simp; omega) (fun g hg => ((K7.out _ hb2).lt g hg).1)
        have HP3 : Hid (ParseAt T B b rb r w3) := by
          have hpa2 : ParseAt T B b rb r (w2.alloc (.cells #[.float .f64 x] 27)) := hb2.out.1.below ((Below.refl _ _).alloc (Nat.le_refl _) _)
          exact hpa2.grown HG1.out (row_apart (K7.out _ hb2) hpa2)
        clear HG1
        go_wp2_with fail
        go_roundw
        case rel => exact ⟨k + 1, acc ++ [x], r, by omega, by go_num, by show (acc ++ [x]).length = _; rw [List.length_append, hal.out]; rfl, HN.out, HP3.out, HB3.out, by rw [List.map_append]; exact HO1.out⟩
        case measure => simp [intOf]; omega
    · have hkn : k = n := by omega
      subst hkn
      go_wp2_with (go_at_call 27; refine (C27.out _).mono ?_; rintro e w' ⟨rfl, rfl⟩)
      go_ret2
      refine .inr ⟨acc, tk, _, ?_, rfl, hbe.out, by rw [hal.out]; exact hown.out⟩
      rw [hpn.out, Nat.sub_self]
      simp [pNums]

end Go.Proofs.YtfmkfnochjeleaaGreatDoor
