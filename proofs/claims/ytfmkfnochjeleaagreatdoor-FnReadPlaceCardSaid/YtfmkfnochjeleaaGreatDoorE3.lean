import Derived.Test.YtfmkfnochjeleaaGreatDoorSh
import Derived.Test.YtfmkfnochjeleaaGreatDoorA1
import Derived.Lib.BufSteps
import Derived.Laws.BytesArg
import Derived.Laws.DeepStrings4
import Derived.OwnWalk
import Derived.Deep.CutBlock
import Derived.Deep.CutRange
namespace Go.Proofs.YtfmkfnochjeleaaGreatDoor
open Go.RowKit

theorem hbyte5 : (Tryz.prog.info? 5).map (fun i => (i.zero, i.size, i.bytes)) = some (some (.int .u8 0), 1, 1) := by kernel_rfl

theorem buf_below {B : Nat} {e : TypeId} {v : Value} {n : Nat} {xs : List Value} {W0 w w' : World} (h : Lib.OwnBuf B e v n xs W0 w) (hb : Below w.heap.size w w') : Lib.OwnBuf B e v n xs W0 w' :=
  ⟨h.1.kept (row := none) ⟨hb.os, hb.tape, hb.output, hb.size, fun k hk _ => hb.block k hk⟩ (by cases hv : v.ownBlock <;> simp), h.2.1.trans ⟨hb.os, hb.tape, hb.output, hb.size, fun k hk => hb.block k (Nat.lt_of_lt_of_le hk h.2.2)⟩, Nat.le_trans h.2.2 hb.size⟩

set_option maxHeartbeats 400000 in
set_option maxRecDepth 1000000 in
theorem esc_any (B : Nat) (v : Value) (n : Nat) (xs : List Value) (r : Int) (W0 w : World) (hb : Lib.OwnBuf B 5 v n xs W0 w) (hlen : n + 10 ≤ 140737488355328) (h1 : 32 ≤ r) (h2 : r ≤ 126) (h3 : r ≠ 34) (h4 : r ≠ 92) :
    Calls Tryz.prog 149 #[v, .int .i32 r, .int .u8 34, .bool false, .bool false] w fun e w' => ∃ v', e = .returned v' ∧ Lib.OwnBuf B 5 v' (n + 1) (xs ++ [.int .u8 r]) W0 w' := by
  have hp : Lib.isPrintLatin r = true := by simp [Lib.isPrintLatin]; omega
  have cP : Hid (∀ w, Calls Tryz.prog 151 #[.int .i32 r] w fun e w' => e = .returned (.bool true) ∧ w = w') := fun w => by
    refine (Tryz.strconv_IsPrint_latin r w (by omega)).mono ?_
    rintro e w' ⟨rfl, rfl⟩
    rw [hp]
    exact ⟨rfl, rfl⟩
  have hc : Lib.runeCells r = [.int .u8 r] := by unfold Lib.runeCells; rw [Lib.encodeRuneZ_one (by omega) (by omega)]; rfl
  have cA : Hid (Calls Tryz.prog 153 #[v, .int .i32 r] w fun e w' => ∃ v', e = .returned v' ∧ Lib.OwnBuf B 5 v' (n + 1) (xs ++ [.int .u8 r]) W0 w') := by
    refine (Tryz.utf8_AppendRune_row B v n xs r (by omega) (by omega) w hb.1 (by omega) hb.2.2).mono ?_
    rintro e w' ⟨v', h1, h2, o, h3⟩
    rw [hc] at h2
    exact ⟨v', h1, (hb.alloc o).grown h2 h3⟩
  clear hb hp hc
  have b1 : (r == 34) = false := by rw [beq_eq_false_iff_ne]; exact h3
  have b2 : (r == 92) = false := by rw [beq_eq_false_iff_ne]; exact h4
  go_enter Tryz.func149, Tryz.ntmps149
  go_wp2_with first | (go_at_call 151; refine (cP.out _).mono ?_; rintro e w' ⟨rfl, rfl⟩) | (go_at_call 153; refine cA.out.mono ?_; rintro e w' ⟨v', rfl, hb2⟩)
  go_ret
  exact ⟨_, rfl, hb2⟩

/-- the text in quotes -/
def quoted (s : ByteArray) : ByteArray := ⟨([34] ++ s.data.toList ++ [34]).toArray⟩

set_option maxHeartbeats 400000 in
set_option maxRecDepth 1000000 in
theorem appq_any (c : Nat) (s : ByteArray) (W0 w : World) (hb : Lib.OwnBuf W0.heap.size 5 (.slice (some ⟨W0.heap.size, 0, none⟩) 0 c) 0 [] W0 w) (hc : s.size ≤ c) (hc2 : c ≤ 140737488355328) (hs : s.size ≤ 2001) (hp : ∀ x ∈ s.data.toList, 32 ≤ x.toNat ∧ x.toNat ≤ 126 ∧ x.toNat ≠ 34 ∧ x.toNat ≠ 92) :
    Calls Tryz.prog 147 #[.slice (some ⟨W0.heap.size, 0, none⟩) 0 c, .string s, .int .u8 34, .bool false, .bool false] w fun e w' => ∃ v', e = .returned v' ∧ Lib.OwnBuf W0.heap.size 5 v' (s.size + 2) (Lib.byteCells (quoted s).data.toList) W0 w' := by
  obtain ⟨i0, hi, hz0, hz1, hz2⟩ := info_parts hbyte5
  obtain ⟨B, hB⟩ : ∃ B, B = W0.heap.size := ⟨_, rfl⟩
  rw [← hB] at hb ⊢
  clear hB
  have HP := Lib.hid hp
  clear hp
  have hroom' : ¬ ((c : Int) < (s.size : Int)) := by omega
  go_enter Tryz.func147, Tryz.ntmps147
  go_upto_block 0 with (at_builtin; refine Lib.wpList_append_byte rfl _ _ 59 rfl B 5 i0 Tryz.underlying59 hi hz0 hz1 hz2 _ _ _ rfl W0 _ _ (by assumption) rfl (by omega) ?_; intro _ _ hb)
  have HB0 := Lib.hid hb
  clear hb
  go_wp2_with fail
  go_loopw [0, 1, 12, 13] (fun vb vs _ _ wr => ∃ k : Nat, k ≤ s.size ∧ vs = .string (s.extract k s.size) ∧ Hid (Lib.OwnBuf B 5 vb (1 + k) ([.int .u8 34] ++ Lib.byteCells (s.data.toList.take k)) W0 wr)) (fun _ vs _ _ _ => match vs with | .string r => r.size | _ => 0)
  case atStart =>
    refine ⟨0, Nat.zero_le _, ?_, HB0.out⟩
    exact congrArg Value.string (by apply ByteArray.ext; simp)
  case round =>
    clear HB0
    obtain ⟨k, hk, rfl, hbr⟩ := hrel
    have hsz : (s.extract k s.size).size = s.size - k := by simp
    by_cases h0 : k < s.size
    · obtain ⟨x, hx⟩ : ∃ x, x = s.data.toList[k]'(by rw [size_toList]; exact h0) := ⟨_, rfl⟩
      have hxp := HP.out x (by rw [hx]; exact List.getElem_mem _)
      have hx0 : (s.extract k s.size).data.toList[0]? = some x := by
        simp only [ByteArray.data_extract, Array.toList_extract, List.extract_eq_take_drop]
        rw [List.getElem?_take, if_pos (by omega), List.getElem?_drop, Nat.add_zero, hx, List.getElem?_eq_getElem]
      have hrest : (s.extract k s.size).extract 1 (s.size - k) = s.extract (k + 1) s.size := by
        apply ByteArray.ext
        simp only [ByteArray.data_extract, Array.extract_extract]
        congr 1
        omega
      have htake : s.data.toList.take (k + 1) = s.data.toList.take k ++ [x] := by
        rw [List.take_add_one, List.getElem?_eq_getElem (by rw [size_toList]; exact h0), ← hx]
        rfl
      have cD := Lib.hid (fun w => Tryz.utf8_DecodeRuneInString_ascii (s.extract k s.size) x w hx0 (by omega))
      have cE := Lib.hid (esc_any B u0 (1 + k) ([.int .u8 34] ++ Lib.byteCells (s.data.toList.take k)) x.toNat W0 wr hbr.out (by omega) (by omega) (by omega) (by omega) (by omega))
      have HREST := Lib.hid hrest
      have HTAKE := Lib.hid htake
      have hx1 : 32 ≤ x.toNat := hxp.1
      have hx2 : x.toNat ≤ 126 := hxp.2.1
      obtain ⟨rs, hrs⟩ : ∃ rs, rs = s.extract k s.size := ⟨_, rfl⟩
      rw [← hrs] at cD hsz HREST
      rw [← hrs]
      have HRS := Lib.hid hrs
      clear hrs hx hx0 hrest htake hxp
      have hp0 : ¬ rs = ByteArray.empty := by intro h; subst h; simp at hsz; omega
      have hp1 : (0 : Int) < (rs.size : Int) := by omega
      have hb3 : ((x.toNat : Int) == 65533) = false := by rw [beq_eq_false_iff_ne]; omega
      go_wp2_with first | (go_at_call 148; refine (cD.out _).mono ?_; rintro e w' ⟨rfl, rfl⟩) | (go_at_call 149; refine cE.out.mono ?_; rintro e w' ⟨v', rfl, hb2⟩; have HB2 := Lib.hid hb2; clear hb2)
      go_roundw
      case measure => simp only []; rw [HREST.out, ByteArray.size_extract, hsz]; omega
      case rel =>
        refine ⟨k + 1, by omega, congrArg Value.string HREST.out, ?_⟩
        have h := HB2.out
        show Lib.OwnBuf _ _ _ _ _ _ _
        rw [HTAKE.out, show 1 + (k + 1) = 1 + k + 1 by omega]
        have e : Lib.byteCells (s.data.toList.take k ++ [x]) = Lib.byteCells (s.data.toList.take k) ++ [.int .u8 x.toNat] := by unfold Lib.byteCells; rw [List.map_append]; rfl
        rw [e, ← List.append_assoc]
        exact h
    · have hke : k = s.size := by omega
      subst hke
      have he : s.extract s.size s.size = ByteArray.empty := by apply ByteArray.ext; simp
      rw [he]
      have hb := hbr.out
      clear hbr he hsz
      go_wp2_with (at_builtin; refine Lib.wpList_append_byte rfl _ _ 59 rfl B 5 i0 Tryz.underlying59 hi hz0 hz1 hz2 _ _ _ rfl W0 _ _ (by assumption) rfl (by omega) ?_; intro _ _ hb)
      go_ret
      refine ⟨_, rfl, ?_⟩
      have e : Lib.byteCells (quoted s).data.toList = [.int .u8 34] ++ Lib.byteCells (s.data.toList.take s.size) ++ [.int .u8 34] := by
        rw [List.take_of_length_le (by rw [size_toList]; exact Nat.le_refl _)]
        unfold quoted Lib.byteCells
        simp
      rw [e, show s.size + 2 = 1 + s.size + 1 by omega]
      exact hb

theorem quoted_size (s : ByteArray) : (quoted s).size = s.size + 2 := by
  have h : (quoted s).size = ([34] ++ s.data.toList ++ [34] : List UInt8).length := by unfold quoted; exact List.size_toArray
  rw [h, List.length_append, List.length_append, size_toList]
  show 1 + s.size + 1 = _
  omega
theorem nums_back (l : List UInt8) : strOfNums (l.map fun x => (x.toNat : Int)) = ⟨l.toArray⟩ := by
  unfold strOfNums
  rw [List.map_map]
  have : ((fun n : Int => UInt8.ofNat n.toNat) ∘ fun x : UInt8 => (x.toNat : Int)) = id := by
    funext x
    simp
  rw [this, List.map_id]
theorem buf_cells2 {B : Nat} {v : Value} {l : List UInt8} {n : Nat} {W0 w : World} (h : Lib.OwnBuf B 5 v n (Lib.byteCells l) W0 w) (hn : n = l.length) (hl : 0 < n) :
    ∃ g cap, v = .slice (some ⟨g, 0, none⟩) n cap ∧ ∀ i, i < n → w.cell? ⟨g, 0 + i, none⟩ = some (.int .u8 ((l.map fun x => (x.toNat : Int)).getD i 0)) := by
  rcases h.1.2 with ⟨_, h0⟩ | ⟨g, cap, cur, fz, rfl, _⟩
  · omega
  · refine ⟨g, cap, rfl, fun i hi => ?_⟩
    have := h.1.cells (g := g) (by simp [Value.ownBlock]) i (.int .u8 ((l.map fun x => (x.toNat : Int)).getD i 0)) (by
      unfold Lib.byteCells
      rw [List.getElem?_map, List.getElem?_eq_getElem (show i < l.length by omega), List.getD_eq_getElem?_getD, List.getElem?_map, List.getElem?_eq_getElem (show i < l.length by omega)]
      rfl)
    by_cases hi0 : i = 0 <;> simpa [Addr.add, hi0] using this

set_option maxHeartbeats 400000 in
set_option maxRecDepth 1000000 in
theorem quoteWith_any (s : ByteArray) (w : World) (hs : s.size ≤ 2001) (hp : ∀ x ∈ s.data.toList, 32 ≤ x.toNat ∧ x.toNat ≤ 126 ∧ x.toNat ≠ 34 ∧ x.toNat ≠ 92) :
    Calls Tryz.prog 146 #[.string s, .int .u8 34, .bool false, .bool false] w fun e w' => e = .returned (.string (quoted s)) ∧ Below w.heap.size w w' := by
  obtain ⟨i0, hi, hz0, hz1, hz2⟩ := info_parts hbyte5
  obtain ⟨c, hc⟩ : ∃ c, c = 3 * s.size / 2 := ⟨_, rfl⟩
  have hcI : 3 * (s.size : Int) / 2 = (c : Int) := by omega
  have hc1 : s.size ≤ c := by omega
  have hc2 : c ≤ 140737488355328 := by omega
  have cQ := Lib.hid (fun w1 (h : Lib.OwnBuf w.heap.size 5 (.slice (some ⟨w.heap.size, 0, none⟩) 0 c) 0 [] w w1) => appq_any c s w w1 h hc1 hc2 hs hp)
  have HC := Lib.hid hc
  clear hc hp
  go_enter Tryz.func146, Tryz.ntmps146
  go_wp2_with (first
    | (at_make; refine wpList_make_own _ rfl _ _ 59 rfl w.heap.size 5 i0 (.int .u8 0) 1 Tryz.underlying59 hi hz0 hz1 _ _ _ c rfl rfl (by first | rfl | assumption) (by rw [hz2]; omega) (by unfold maxLen; omega) (Nat.le_refl _) ?_; intro w1 hown hg)
    | (go_at_call 147; refine (cQ.out _ ⟨World.ownsRowF_of hown, (Below.refl _ _).grown hg (Nat.le_refl _) (by intro k hk; cases hk), hg.size⟩).mono ?_; rintro e w2 ⟨v2, rfl, hb2⟩))
  have hql : s.size + 2 = (quoted s).data.toList.length := by rw [size_toList, quoted_size]
  obtain ⟨g, cap, rfl, hcells⟩ := buf_cells2 hb2 hql (by omega)
  have hcv := run_convert_bytes_arg (P := Tryz.prog) w2 59 5 Tryz.underlying59 (by rfl) g 0 (s.size + 2) cap ((quoted s).data.toList.map fun x => (x.toNat : Int)) (by rw [List.length_map, ← hql]) hcells 9 (by rfl)
  rw [nums_back] at hcv
  rw [hcv]
  go_wp2_with fail
  go_ret
  exact ⟨rfl, hb2.2.1⟩

theorem quote_any (s : ByteArray) (w : World) (hs : s.size ≤ 2001) (hp : ∀ x ∈ s.data.toList, 32 ≤ x.toNat ∧ x.toNat ≤ 126 ∧ x.toNat ≠ 34 ∧ x.toNat ≠ 92) :
    Calls Tryz.prog 145 #[.string s] w fun e w' => e = .returned (.string (quoted s)) ∧ Below w.heap.size w w' := by
  have cW := Lib.hid (quoteWith_any s w hs hp)
  clear hp
  go_enter Tryz.func145, Tryz.ntmps145
  go_wp2_with (go_at_call 146; refine cW.out.mono ?_; rintro e w2 ⟨rfl, hb⟩)
  go_ret
  exact ⟨rfl, hb⟩

theorem errText_any (b o : Nat) (t : ByteArray) (w : World) (h : w.cell? ⟨b, o, none⟩ = some (.string t)) : Calls Tryz.prog 161 #[.pointer (some ⟨b, o, none⟩)] w fun e w' => e = .returned (.string t) ∧ Below w.heap.size w w' := by
  go_enter Tryz.func161, Tryz.ntmps161
  go_wp2_with fail
  go_ret
  exact ⟨rfl, Below.refl _ _⟩

set_option maxRecDepth 100000 in
theorem numErr_any (N b o : Nat) (fn s t : ByteArray) (w : World) (h : w.heap[N]? = some (.cells #[.string fn, .string s, .iface 137 (.pointer (some ⟨b, o, none⟩))] 104 (0, 0))) (hfn : fn.size ≤ 100) (ht : t.size ≤ 100) (hbt : w.cell? ⟨b, o, none⟩ = some (.string t)) (hbw : b < w.heap.size) (hs : s.size ≤ 2001) (hp : ∀ x ∈ s.data.toList, 32 ≤ x.toNat ∧ x.toNat ≤ 126 ∧ x.toNat ≠ 34 ∧ x.toNat ≠ 92) :
    Calls Tryz.prog 144 #[.pointer (some ⟨N, 0, none⟩)] w fun e w' => (∃ z, e = .returned (.string z)) ∧ Below w.heap.size w w' := by
  have hq := quoted_size s
  refine (Tryz.NumError_Error N 0 fn s (quoted s) t 137 (.pointer (some ⟨b, o, none⟩)) 161 (.pointer (some ⟨b, o, none⟩)) w (by rw [Lib.cell_of_heap h]; rfl) (by rw [Lib.cell_of_heap h]; rfl) (by rw [Lib.cell_of_heap h]; rfl) (by omega) (fun W hW => quote_any s W hs hp) (fun W => rfl) (enters_of Tryz.func161 (by kernel_rfl) rfl) (fun W hW => ?_)).mono ?_
  · refine errText_any b o t W ?_
    rw [hW.cell (show (⟨b, o, none⟩ : Addr).block < w.heap.size from hbw)]
    exact hbt
  · rintro e w' ⟨rfl, h⟩
    exact ⟨⟨_, rfl⟩, h⟩

end Go.Proofs.YtfmkfnochjeleaaGreatDoor
