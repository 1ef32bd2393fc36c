import Derived.Test.YtfmkfnochjeleaaGreatDoorU1
import Derived.Test.YtfmkfnochjeleaaGreatDoorRows
import Derived.Lib.LaidU8
import Derived.Stop.LaidErr
import Derived.Laws.Rows
namespace Go.Proofs.YtfmkfnochjeleaaGreatDoor
open Go.RowKit Go.Lib

section
variable {P : Program} {w : World}
theorem lit_int_inj {k k' : IntKind} {a b : Int} {p q : List MemPlace} (h : ((DataW.lit (.int k a) : DataW Unit), p) = (.lit (.int k' b), q)) : a = b := by
  injection h with h _
  injection h with h
  injection h
theorem lit_float_inj {k k' : FloatKind} {a b : Nat} {p q : List MemPlace} (h : ((DataW.lit (.float k a) : DataW Unit), p) = (.lit (.float k' b), q)) : a = b := by
  injection h with h _
  injection h with h
  injection h
/-- one cell of a list of cells -/
theorem cells_get {a : Addr} {n : Nat} {cs : List Value} (h : w.cells? 0 a n = some cs) : cs.length = n ∧ ∀ i, i < n → w.cell? (a.add i) = cs[i]? := by
  unfold World.cells? at h
  rw [if_pos (Nat.zero_le _)] at h
  have hl := mapM_length h
  rw [List.length_range] at hl
  refine ⟨hl, fun i hi => ?_⟩
  obtain ⟨b, h1, h2⟩ := mapM_at h i i (by rw [List.getElem?_range hi])
  rw [h1, h2]
/-- a slice that reads as a list without spare -/
theorem slice_reads {t e : TypeId} {fuel : Nat} {cs : List Value} {ds : List (DataW Unit)} {p : List MemPlace} (ht : P.underlying t = some (.slice e))
    (h : DataW.trod (fun _ => ()) P w 0 (fun _ => true) false fuel t cs = some (.slice ds [], p)) :
    ∃ (a : Addr), cs = [.slice (some a) ds.length ds.length] ∧ ∀ i d, ds[i]? = some d → ∃ n q cs', w.cells? 0 (a.add (i * P.cellsOf e)) (P.cellsOf e) = some cs' ∧ DataW.trod (fun _ => ()) P w 0 (fun _ => true) false n e cs' = some (d, q) := by
  rcases DataW.trod_slice ht h with ⟨_, hx⟩ | ⟨a, len, cap, elems, rest, n, _, hcs, hx, _, hl, _, hlen, hel, hsp, _⟩
  · injection hx with hx _; cases hx
  · injection hx with hx _
    injection hx with hx1 hx2
    have hr : rest = [] := by
      cases rest with
      | nil => rfl
      | cons x r => cases hx2
    have hc := (hsp rfl).1
    rw [hr] at hc
    have hcl : cap = len := by have : ([] : List (DataW Unit × List MemPlace)).length = 0 := rfl; omega
    have hdl : ds.length = len := by rw [hx1, List.length_map, hlen]
    refine ⟨a, by rw [hcs, hcl, hdl], fun i d hd => ?_⟩
    have hi : i < len := by rw [← hdl]; exact (List.getElem?_eq_some_iff.1 hd).1
    have := hel i hi
    rw [hx1, List.getElem?_map] at hd
    cases hei : elems[i]? with
    | none => rw [hei] at hd; cases hd
    | some y =>
      rw [hei] at hd this
      have hy : y.1 = d := Option.some.inj hd
      obtain ⟨cs', h1, h2⟩ := Option.bind_eq_some_iff.1 this
      exact ⟨n, y.2, cs', h1, by rw [h2, ← hy]⟩
theorem float_reads {t : TypeId} {k : FloatKind} {fuel : Nat} {cs : List Value} {x : DataW Unit × List MemPlace} (ht : P.underlying t = some (.float k)) (h : DataW.trod (fun _ => ()) P w 0 (fun _ => true) false fuel t cs = some x) : ∃ n, cs = [.float k n] ∧ x = (.lit (.float k n), []) := by
  cases fuel with
  | zero => simp [DataW.trod] at h
  | succ n =>
    unfold DataW.trod at h
    rw [ht] at h
    split at h <;> simp_all
end
section
variable {P : Program} {w : World}
theorem reads_open {n : String} {d : DataW Unit} {g : Nat} {t : TypeId} (h : VarReads P w n d) (hg : P.globalNamed n = some g) (ht : (P.globals[g]?).map (·.type) = some t) :
    ∃ (cs : List Value) (fuel : Nat) (p : List MemPlace), DataW.trod (fun _ => ()) P w 0 (fun _ => true) false fuel t cs = some (d, p) ∧ ∀ i, w.cell? ⟨g, i, none⟩ = cs[i]? := by
  obtain ⟨g', t', cs, fuel, p, h1, h2, h3, h4⟩ := h
  obtain rfl := Option.some.inj (hg.symm.trans h1)
  obtain rfl := Option.some.inj (ht.symm.trans h2)
  refine ⟨cs.toList, fuel, p, h4, fun i => ?_⟩
  rw [World.var?_cell hg h3 i]
  simp
theorem struct_elem {t : TypeId} {fs : Array Field} {fuel : Nat} {cs : List Value} {ds : List (DataW Unit)} {p : List MemPlace} (ht : P.underlying t = some (.struct fs)) (h : DataW.trod (fun _ => ()) P w 0 (fun _ => true) false fuel t cs = some (.agg ds, p))
    (i : Nat) (f : Field) (hf : fs[i]? = some f) (d : DataW Unit) (hd : ds[i]? = some d) : ∃ n q, DataW.trod (fun _ => ()) P w 0 (fun _ => true) false n f.type ((cs.drop f.offset).take (P.cellsOf f.type)) = some (d, q) := by
  obtain ⟨xs, n, _, hx, _, _, hall⟩ := DataW.trod_struct ht h
  injection hx with hx _
  injection hx with hx
  have := hall i f hf
  rw [hx, List.getElem?_map] at hd
  cases hxi : xs[i]? with
  | none => rw [hxi] at hd; cases hd
  | some y =>
    rw [hxi] at hd this
    exact ⟨n, y.2, by rw [this, ← Option.some.inj hd]⟩
theorem take_one {cs : List Value} {o : Nat} {v : Value} (h : (cs.drop o).take 1 = [v]) : cs[o]? = some v := by
  have := congrArg (fun l : List Value => l[0]?) h
  simpa [List.getElem?_take, List.getElem?_drop] using this
theorem struct_int {t : TypeId} {fs : Array Field} {fuel : Nat} {cs : List Value} {ds : List (DataW Unit)} {p : List MemPlace} (ht : P.underlying t = some (.struct fs)) (h : DataW.trod (fun _ => ()) P w 0 (fun _ => true) false fuel t cs = some (.agg ds, p))
    (i : Nat) (f : Field) (hf : fs[i]? = some f) {k : IntKind} {z : Int} (hk : P.underlying f.type = some (.int k)) (hc : P.cellsOf f.type = 1) (hd : ds[i]? = some (.lit (.int k z))) : cs[f.offset]? = some (.int k z) := by
  obtain ⟨n, q, h1⟩ := struct_elem ht h i f hf _ hd
  rw [hc] at h1
  obtain ⟨m, h2, h3, _⟩ := DataW.trod_int hk h1
  injection h3 with h3 _
  injection h3 with h3
  injection h3 with _ h3
  rw [h3]
  exact take_one h2
theorem struct_str {t : TypeId} {fs : Array Field} {fuel : Nat} {cs : List Value} {ds : List (DataW Unit)} {p : List MemPlace} (ht : P.underlying t = some (.struct fs)) (h : DataW.trod (fun _ => ()) P w 0 (fun _ => true) false fuel t cs = some (.agg ds, p))
    (i : Nat) (f : Field) (hf : fs[i]? = some f) {z : List UInt8} (hk : P.underlying f.type = some .string) (hc : P.cellsOf f.type = 1) (hd : ds[i]? = some (.lit (.string z))) : cs[f.offset]? = some (.string ⟨z.toArray⟩) := by
  obtain ⟨n, q, h1⟩ := struct_elem ht h i f hf _ hd
  rw [hc] at h1
  obtain ⟨s, h2, h3, _⟩ := DataW.trod_string hk h1
  injection h3 with h3 _
  injection h3 with h3
  injection h3 with h3
  rw [h3]
  exact take_one h2
theorem spot_none {a : Addr} {v : Value} (h : w.cell? a = some v) : a = ⟨a.block, a.off, none⟩ := by
  obtain ⟨b, o, sp⟩ := a
  cases sp with
  | none => rfl
  | some x =>
    unfold World.cell? at h
    split at h <;> simp_all
theorem addr_add (b o n : Nat) : (⟨b, o, none⟩ : Addr).add n = ⟨b, o + n, none⟩ := by unfold Addr.add; split <;> simp_all
end

theorem g_at (i : Nat) (n : String) (h : Tryz.prog.globalNamed n = some i) : Tryz.prog.globalNamed n = some i := h
def Laid : List (String × DataW Unit) := Rows.fnReadPlaceRow.laid
theorem laid_opt {W : World} (h : laidMet Tryz.prog Laid W) : W.cell? ⟨5, 0, none⟩ = some (.bool true) := by
  obtain ⟨cs, fuel, p, h1, h2⟩ := reads_open (laidMet.reads h (n := "internal/strconv.optimize") (d := .lit (.bool true)) (List.mem_of_getElem? (i := 4) rfl)) (g := 5) (t := 4) (by kernel_rfl) (by kernel_rfl)
  obtain ⟨b, h3, h4⟩ := DataW.trod_bool Tryz.underlying4 h1
  injection h4 with h4 _
  injection h4 with h4
  injection h4 with h4
  rw [h2 0, h3, h4]
  rfl
theorem laid_info {W : World} (h : laidMet Tryz.prog Laid W) : InfoTab W := by
  obtain ⟨cs, fuel, p, h1, h2⟩ := reads_open (laidMet.reads h (n := "internal/strconv.float64info") (d := Rows.laid_internal_strconv_float64info) (List.mem_of_getElem? (i := 3) rfl)) (g := 6) (t := 119) (by kernel_rfl) (by kernel_rfl)
  have c35 : Tryz.prog.cellsOf 35 = 1 := by kernel_rfl
  have c3 : Tryz.prog.cellsOf 3 = 1 := by kernel_rfl
  refine ⟨?_, ?_, ?_⟩
  · rw [h2 0]; exact struct_int Tryz.underlying119 h1 0 _ rfl Tryz.underlying35 c35 rfl
  · rw [h2 1]; exact struct_int Tryz.underlying119 h1 1 _ rfl Tryz.underlying35 c35 rfl
  · rw [h2 2]; exact struct_int Tryz.underlying119 h1 2 _ rfl Tryz.underlying3 c3 rfl
theorem laid_eof3 {W : World} (h : laidMet Tryz.prog Laid W) : GEof W := by
  obtain ⟨cs, fuel, p, h1, h2⟩ := reads_open (laidMet.reads h (n := "pub-alidade/pub/simplefeatures/geom.wktUnexpectedEOF") (d := Rows.laid_pub_alidade_pub_simplefeatures_geom_wktUnexpectedEOF) (List.mem_of_getElem? (i := 14) rfl)) (g := 3) (t := 96) (by kernel_rfl) (by kernel_rfl)
  have c9 : Tryz.prog.cellsOf 9 = 1 := by kernel_rfl
  exact ⟨_, by rw [h2 0]; exact struct_str Tryz.underlying96 h1 0 _ rfl Tryz.underlying9 c9 rfl⟩
set_option maxRecDepth 100000 in
theorem first_all : ∀ c, c < 128 → Go.Pinned.utf8FirstZ[c]? = some 240 := by decide +kernel
theorem laid_first {W : World} (h : laidMet Tryz.prog Laid W) : FirstTab W := by
  obtain ⟨cs, fuel, p, h1, h2⟩ := reads_open (laidMet.reads h (n := "unicode/utf8.first") (d := Go.Pinned.utf8First) (List.mem_of_getElem? (i := 17) rfl)) (g := 12) (t := 189) (by kernel_rfl) (by kernel_rfl)
  have c5 : Tryz.prog.cellsOf 5 = 1 := by kernel_rfl
  have c189 : Tryz.prog.cellsOf 189 = 256 := by kernel_rfl
  have hd : Go.Pinned.utf8First = tabData .u8 (Go.Pinned.utf8FirstZ.map fun (n : Nat) => (n : Int)) := by
    unfold Go.Pinned.utf8First tabData Go.Pinned.numbers
    rw [List.map_map]
    rfl
  rw [hd] at h1
  have h3 := cells_of_tab Tryz.underlying189 Tryz.underlying5 c5 c189 h1
  intro c hc
  rw [h2 c, h3, List.getElem?_map, List.getElem?_map, first_all c hc]
  rfl
set_option maxRecDepth 100000 in
theorem laid_pow {W : World} (h : laidMet Tryz.prog Laid W) : PowTab W := by
  obtain ⟨cs, fuel, p, h1, h2⟩ := reads_open (laidMet.reads h (n := "internal/strconv.pow10Tab") (d := Go.Pinned.pow10Tab) (List.mem_of_getElem? (i := 16) rfl)) (g := 11) (t := 180) (by kernel_rfl) (by kernel_rfl)
  have c44 : Tryz.prog.cellsOf 44 = 1 := by kernel_rfl
  have c179 : Tryz.prog.cellsOf 179 = 2 := by kernel_rfl
  have hlen : Go.Pinned.pow10Rows.length = 696 := by decide +kernel
  intro i hi
  unfold Go.Pinned.pow10Tab at h1
  obtain ⟨f', d, q, hd, h3⟩ := array_elem Tryz.underlying180 h1 i hi
  obtain ⟨x, hx⟩ : ∃ x, Go.Pinned.pow10Rows[i]? = some x := ⟨_, List.getElem?_eq_getElem (by omega)⟩
  rw [List.getElem?_map, hx] at hd
  have hd' := Option.some.inj hd
  subst hd'
  rw [c179] at h3
  have a0 := struct_int Tryz.underlying179 h3 0 _ rfl (z := x.1) (k := .u64) Tryz.underlying44 c44 rfl
  have a1 := struct_int Tryz.underlying179 h3 1 _ rfl (z := x.2) (k := .u64) Tryz.underlying44 c44 rfl
  have e0 : pHi i = x.1 := by unfold pHi; rw [hx]; rfl
  have e1 : pLo i = x.2 := by unfold pLo; rw [hx]; rfl
  have b0 : (List.take 2 (List.drop (i * 2) cs))[0]? = some (.int .u64 x.1) := a0
  have b1 : (List.take 2 (List.drop (i * 2) cs))[1]? = some (.int .u64 x.2) := a1
  rw [List.getElem?_take_of_lt (by decide), List.getElem?_drop] at b0 b1
  exact ⟨by rw [h2, e0]; exact b0, by rw [h2, e1]; exact b1⟩
/-- the cells behind a slice's address -/
theorem slice_base {W : World} {a : Addr} {i k : Nat} {cs' : List Value} (h : W.cells? 0 (a.add (i * k)) k = some cs') (hs : a = ⟨a.block, a.off, none⟩) : ∀ j, j < k → W.cell? ⟨a.block, a.off + i * k + j, none⟩ = cs'[j]? := by
  obtain ⟨_, h2⟩ := cells_get h
  intro j hj
  have := h2 j hj
  rw [hs, addr_add, addr_add] at this
  exact this
theorem laid_sh {W : World} (h : laidMet Tryz.prog Laid W) : ShTab W.heap.size W := by
  obtain ⟨cs, fuel, p, h1, h2⟩ := reads_open (laidMet.reads h (n := "internal/strconv.powtab") (d := Rows.laid_internal_strconv_powtab) (List.mem_of_getElem? (i := 5) rfl)) (g := 8) (t := 164) (by kernel_rfl) (by kernel_rfl)
  have c3 : Tryz.prog.cellsOf 3 = 1 := by kernel_rfl
  obtain ⟨a, h3, h4⟩ := slice_reads Tryz.underlying164 h1
  rw [c3] at h4
  have h5 : ∀ i z, (Rows.laid_internal_strconv_powtab : DataW Unit) = Rows.laid_internal_strconv_powtab → i < 9 → ptn i = z → W.cell? (a.add (i * 1)) = some (.int .i64 z) := by
    intro i z _ hi hz
    obtain ⟨n, q, cs', h6, h7⟩ := h4 i (.lit (.int .i64 z)) (by
      rw [← hz]
      have : ∀ i : Fin 9, ptn i.val = [1, 3, 6, 9, 13, 16, 19, 23, 26].getD i.val 0 := by decide
      have e := this ⟨i, hi⟩
      simp only at e
      rw [e]
      match i, hi with
      | 0, _ => rfl
      | 1, _ => rfl
      | 2, _ => rfl
      | 3, _ => rfl
      | 4, _ => rfl
      | 5, _ => rfl
      | 6, _ => rfl
      | 7, _ => rfl
      | 8, _ => rfl)
    obtain ⟨m, h8, h9, _⟩ := DataW.trod_int Tryz.underlying3 h7
    obtain ⟨_, h10⟩ := cells_get h6
    have := h10 0 (by decide)
    rw [h8, ← lit_int_inj h9] at this
    have e0 : (a.add (i * 1)).add 0 = a.add (i * 1) := rfl
    rw [e0] at this
    exact this
  have hs := spot_none (h5 0 _ rfl (by decide) rfl)
  have e0 : a.add (0 * 1) = a := rfl
  rw [e0] at hs
  rw [hs] at h3 h5
  have h8 := h2 0
  rw [h3] at h8
  have hb' := h5 0 _ rfl (by decide) rfl
  rw [addr_add] at hb'
  refine ⟨a.block, a.off, h8, (show (⟨a.block, a.off + 0 * 1, none⟩ : Addr).block < _ from block_lt_of_cell hb'), block_lt_of_cell h8, fun i hi => ?_⟩
  have := h5 i _ rfl hi rfl
  rw [addr_add, Nat.mul_one] at this
  exact this
theorem fp_datum : (Rows.laid_internal_strconv_float64pow10 : DataW Unit) = .slice (fpL.map fun n => .lit (.float .f64 n)) [] := rfl
theorem laid_fp {W : World} (h : laidMet Tryz.prog Laid W) : ∃ a o, W.cell? ⟨9, 0, none⟩ = some (.slice (some ⟨a, o, none⟩) 23 23) ∧ a < W.heap.size ∧ ∀ i, i < 23 → W.cell? ⟨a, o + i, none⟩ = some (.float .f64 (fp i)) := by
  obtain ⟨cs, fuel, p, h1, h2⟩ := reads_open (laidMet.reads h (n := "internal/strconv.float64pow10") (d := Rows.laid_internal_strconv_float64pow10) (List.mem_of_getElem? (i := 6) rfl)) (g := 9) (t := 25) (by kernel_rfl) (by kernel_rfl)
  have c27 : Tryz.prog.cellsOf 27 = 1 := by kernel_rfl
  have hl : fpL.length = 23 := by decide
  rw [fp_datum] at h1
  obtain ⟨a, h3, h4⟩ := slice_reads Tryz.underlying25 h1
  rw [c27] at h4
  have h5 : ∀ i, i < 23 → W.cell? (a.add (i * 1)) = some (.float .f64 (fp i)) := by
    intro i hi
    obtain ⟨n, q, cs', h6, h7⟩ := h4 i (.lit (.float .f64 (fp i))) (by
      rw [List.getElem?_map, List.getElem?_eq_getElem (by omega)]
      unfold fp
      rw [List.getD_eq_getElem?_getD, List.getElem?_eq_getElem (by omega)]
      rfl)
    obtain ⟨m, h8, h9⟩ := float_reads Tryz.underlying27 h7
    obtain ⟨_, h10⟩ := cells_get h6
    have := h10 0 (by decide)
    rw [h8, ← lit_float_inj h9] at this
    have e0 : (a.add (i * 1)).add 0 = a.add (i * 1) := rfl
    rw [e0] at this
    exact this
  have hs := spot_none (h5 0 (by decide))
  have e0 : a.add (0 * 1) = a := rfl
  rw [e0] at hs
  rw [hs] at h3 h5
  have h8 := h2 0
  rw [h3, List.length_map, hl] at h8
  have hb' := h5 0 (by decide)
  rw [addr_add] at hb'
  refine ⟨a.block, a.off, h8, (show (⟨a.block, a.off + 0 * 1, none⟩ : Addr).block < _ from block_lt_of_cell hb'), fun i hi => ?_⟩
  have := h5 i hi
  rw [addr_add, Nat.mul_one] at this
  exact this
set_option maxRecDepth 100000 in
theorem laid_cheat {W : World} (h : laidMet Tryz.prog Laid W) : CheatTab W.heap.size W := by
  obtain ⟨cs, fuel, p, h1, h2⟩ := reads_open (laidMet.reads h (n := "internal/strconv.leftcheats") (d := Go.Pinned.leftcheats) (List.mem_of_getElem? (i := 15) rfl)) (g := 15) (t := 197) (by kernel_rfl) (by kernel_rfl)
  have c196 : Tryz.prog.cellsOf 196 = 2 := by kernel_rfl
  have c3 : Tryz.prog.cellsOf 3 = 1 := by kernel_rfl
  have c9 : Tryz.prog.cellsOf 9 = 1 := by kernel_rfl
  have hl : Go.Pinned.cheatRows.length = 61 := by decide +kernel
  unfold Go.Pinned.leftcheats at h1
  obtain ⟨a, h3, h4⟩ := slice_reads Tryz.underlying197 h1
  rw [c196] at h4
  have h5 : ∀ i, i < 61 → ∃ cs', W.cells? 0 (a.add (i * 2)) 2 = some cs' ∧ cs'[0]? = some (.int .i64 (cheatD i)) ∧ cs'[1]? = some (.string ⟨(cheatC i).toArray⟩) := by
    intro i hi
    obtain ⟨x, hx⟩ : ∃ x, Go.Pinned.cheatRows[i]? = some x := ⟨_, List.getElem?_eq_getElem (by omega)⟩
    obtain ⟨n, q, cs', h6, h7⟩ := h4 i (.agg [.lit (.int .i64 x.1), .lit (.string x.2)]) (by rw [List.getElem?_map, hx]; rfl)
    have a0 := struct_int Tryz.underlying196 h7 0 _ rfl (z := x.1) (k := .i64) Tryz.underlying3 c3 rfl
    have a1 := struct_str Tryz.underlying196 h7 1 _ rfl (z := x.2) Tryz.underlying9 c9 rfl
    have e0 : cheatD i = x.1 := by unfold cheatD; rw [List.getD_eq_getElem?_getD, hx]; rfl
    have e1 : cheatC i = x.2 := by unfold cheatC; rw [List.getD_eq_getElem?_getD, hx]; rfl
    exact ⟨cs', h6, by rw [e0]; exact a0, by rw [e1]; exact a1⟩
  obtain ⟨cs0, k1, k2, _⟩ := h5 0 (by decide)
  have hb := (cells_get k1).2 0 (by decide)
  rw [k2] at hb
  have e0 : (a.add (0 * 2)).add 0 = a := rfl
  rw [e0] at hb
  have hs := spot_none hb
  have h8 := h2 0
  rw [h3, List.length_map, hl, hs] at h8
  refine ⟨a.block, a.off, h8, block_lt_of_cell hb, block_lt_of_cell h8, fun i hi => ?_⟩
  obtain ⟨cs', q1, q2, q3⟩ := h5 i hi
  have hc := slice_base q1 hs
  have r0 := hc 0 (by decide)
  have r1 := hc 1 (by decide)
  rw [q2] at r0
  rw [q3] at r1
  exact ⟨r0, r1⟩

/-- the sentinel errors -/
theorem star137 : "*" ++ "errors.errorString" = "*errors.errorString" := by decide
theorem row137 : ∀ u, Tryz.prog.typeName? 3 u = some "*errors.errorString" → u = 137 := fun u h =>
  typeName_ptr_named (nm := "errors.errorString") (by rw [star137]; kernel_rfl) (by kernel_rfl) (by decide) u (by rw [star137]; exact h)
theorem laid_err {W : World} {n : String} {text : List UInt8} {r : List (String × DataW Unit)} {g : Nat} (h : laidMet Tryz.prog ((n, .iface "*errors.errorString" (.ptr (.agg [.lit (.string text)]))) :: r) W) (hg : Tryz.prog.globalNamed n = some g) (ht : (Tryz.prog.globals[g]?).map (·.type) = some 39) (hl : text.length ≤ 100) :
    ErrTab W.heap.size g W := by
  obtain ⟨a, s, h1, h2, h3, h4⟩ := laid_sentinel h hg ht Tryz.underlying39 row137 Tryz.underlying137 Tryz.underlying139 rfl rfl Tryz.underlying9 (by kernel_rfl) (by kernel_rfl)
  have hc := World.var?_cell hg h1 0
  have hs := spot_none h2
  rw [hs] at hc h2
  exact ⟨a.block, a.off, s, hc, (show (⟨a.block, a.off, none⟩ : Addr).block < _ from block_lt_of_cell h2), block_lt_of_cell hc, h2, by rw [← size_toList, h3]; exact hl⟩
set_option maxRecDepth 100000 in
theorem vars_laid {W : World} (h : laidMet Tryz.prog Laid W) : Vars W.heap.size W := by
  have hg18 : 18 < W.heap.size := by
    obtain ⟨cs, fuel, p, h1, h2⟩ := reads_open (laidMet.reads h (n := "math/bits.deBruijn64tab") (d := Rows.laid_math_bits_deBruijn64tab) (List.mem_of_getElem? (i := 1) rfl)) (g := 18) (t := 206) (by kernel_rfl) (by kernel_rfl)
    obtain ⟨f', d, q, _, h3⟩ := array_elem Tryz.underlying206 h1 0 (by decide)
    have c5 : Tryz.prog.cellsOf 5 = 1 := by kernel_rfl
    rw [c5] at h3
    obtain ⟨m, h4, _⟩ := DataW.trod_int Tryz.underlying5 h3
    have h5 := take_one h4
    have h6 := h2 (0 * 1)
    rw [h5] at h6
    exact block_lt_of_cell h6
  have hr := h.tail.tail.tail.tail.tail.tail.tail.tail.tail.tail
  have h2 : ErrTab W.heap.size 2 W := laid_err hr (by kernel_rfl) (by kernel_rfl) (by decide)
  have h1 : ErrTab W.heap.size 1 W := laid_err hr.tail (by kernel_rfl) (by kernel_rfl) (by decide)
  have h10 : ErrTab W.heap.size 10 W := laid_err hr.tail.tail (by kernel_rfl) (by kernel_rfl) (by decide)
  obtain ⟨p, o, t, e1, _⟩ := h10
  exact ⟨⟨Nat.le_refl _, hg18, laid_opt h, laid_pow h, laid_info h, laid_fp h, laid_sh h, laid_cheat h⟩, h1, h2, laid_eof3 h, laid_first h, ⟨p, o, e1⟩, hg18⟩
end Go.Proofs.YtfmkfnochjeleaaGreatDoor
