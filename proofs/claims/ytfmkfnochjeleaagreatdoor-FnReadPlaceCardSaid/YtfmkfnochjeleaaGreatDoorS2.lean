import Derived.Test.YtfmkfnochjeleaaGreatDoorS1
import Derived.Deep.QuietTactic
import Derived.BigQuiet
import Derived.Deep.DeepCutAuto
import Derived.Deep.RegionLaw
namespace Go.Proofs.YtfmkfnochjeleaaGreatDoor
open Go.RowKit

/-- utf8.first at the ASCII bytes -/
def FirstTab (w : World) : Prop := ∀ c : Nat, c < 128 → w.cell? ⟨12, c, none⟩ = some (.int .u8 240)

theorem full_zero (a : Option Addr) (cap : Nat) (w : World) : Calls Tryz.prog 94 #[.slice a 0 cap] w fun e w' => e = .returned (.bool false) ∧ w = w' := by
  go_enter Tryz.func94, Tryz.ntmps94
  go_wp2_with fail
  go_ret
  exact ⟨rfl, rfl⟩

theorem full_ascii (a : Addr) (n cap c : Nat) (w : World) (hn : 1 ≤ n) (hn2 : n ≤ 2000) (hc : w.cell? a = some (.int .u8 c)) (hc1 : c < 128) (hT : FirstTab w) :
    Calls Tryz.prog 94 #[.slice (some a) n cap] w fun e w' => e = .returned (.bool true) ∧ w = w' := by
  have h1 := hT c hc1
  clear hT
  have hb : bits .and .u8 240 7 = 0 := by decide
  have hz : ((n : Int) == 0) = false := by rw [beq_eq_false_iff_ne]; omega
  have hz2 : ¬ n = 0 := by omega
  go_enter Tryz.func94, Tryz.ntmps94
  go_wp2_with fail
  go_ret
  exact ⟨rfl, rfl⟩

/-- a strings.Reader at block rb: text T, i bytes read -/
def RdAt (rb : Nat) (T : ByteArray) (i : Nat) (w : World) : Prop := ∃ x : Int, w.heap[rb]? = some (.cells #[.string T, .int .i64 i, .int .i64 x] 108 (0, 0))
theorem RdAt.s {rb i : Nat} {T : ByteArray} {w : World} (h : RdAt rb T i w) : w.cell? ⟨rb, 0, none⟩ = some (.string T) := by
  obtain ⟨x, h⟩ := h; rw [Lib.cell_of_heap h]; rfl
theorem RdAt.i {rb i : Nat} {T : ByteArray} {w : World} (h : RdAt rb T i w) : w.cell? ⟨rb, 1, none⟩ = some (.int .i64 i) := by
  obtain ⟨x, h⟩ := h; rw [Lib.cell_of_heap h]; rfl
theorem RdAt.p {rb i : Nat} {T : ByteArray} {w : World} (h : RdAt rb T i w) : ∃ x : Int, w.cell? ⟨rb, 2, none⟩ = some (.int .i64 x) := by
  obtain ⟨x, h⟩ := h; exact ⟨x, by rw [Lib.cell_of_heap h]; rfl⟩
theorem RdAt.fz {rb i : Nat} {T : ByteArray} {w : World} (h : RdAt rb T i w) (o : Nat) : w.frozen? ⟨rb, o, none⟩ = false := by
  obtain ⟨x, h⟩ := h; exact Lib.frozen_of_heap h o
theorem RdAt.setP {rb i : Nat} {T : ByteArray} {w : World} (h : RdAt rb T i w) (x : Int) : RdAt rb T i (w.setCell ⟨rb, 2, none⟩ (.int .i64 x)) := by
  obtain ⟨y, h⟩ := h; exact ⟨x, Lib.heap_setCell_same (i := 2) h _⟩
theorem RdAt.setI {rb i : Nat} {T : ByteArray} {w : World} (h : RdAt rb T i w) (k : Nat) : RdAt rb T k (w.setCell ⟨rb, 1, none⟩ (.int .i64 k)) := by
  obtain ⟨y, h⟩ := h; exact ⟨y, Lib.heap_setCell_same (i := 1) h _⟩
theorem RdAt.of_heap {rb i : Nat} {T : ByteArray} {w w' : World} (h : RdAt rb T i w) (e : w'.heap[rb]? = w.heap[rb]?) : RdAt rb T i w' := by
  obtain ⟨y, h⟩ := h; exact ⟨y, e.trans h⟩
theorem SAt.ne {B b rb i : Nat} {T : ByteArray} {K : PS} {l : List UInt8} {w : World} (h : SAt B b K l w) (hr : RdAt rb T i w) : rb ≠ b := by
  obtain ⟨_, x, lr, h3, _⟩ := h
  obtain ⟨y, hr⟩ := hr
  intro e
  subst e
  have := h3.tag hr
  revert this
  decide
theorem SAt.setRd {B b rb i k : Nat} {T : ByteArray} {K : PS} {l : List UInt8} {w : World} (h : SAt B b K l w) (hr : RdAt rb T i w) (v : Value) : SAt B b K l (w.setCell ⟨rb, k, none⟩ v) := by
  have hne := h.ne hr
  obtain ⟨hB, x, lr, h3, hown, hn⟩ := h
  obtain ⟨y, hr⟩ := hr
  have h1 : (w.setCell ⟨rb, k, none⟩ v).heap[b]? = w.heap[b]? := Below.heap_setCell _ _ _ _ (Ne.symm hne)
  refine ⟨hB, x, lr, h3.of_heap h1, hown.kept (Lib.grownBy_setCell w rb k v) (Or.inr ?_), hn⟩
  intro e
  rcases hown.2 with ⟨h0, _⟩ | ⟨g, cap, cur, hv, _, hg, _⟩
  · rw [h0] at e; cases e
  · rw [hv] at e
    have e2 : g = rb := by simpa [Value.ownBlock] using e
    subst e2
    rw [hr] at hg
    injection hg with hg
    injection hg with _ h2 _
    revert h2
    decide
theorem heap_setCells_ne {b b' : Nat} (hne : b' ≠ b) : ∀ (vs : List Value) (o : Nat) (w : World), (w.setCells b o vs).heap[b']? = w.heap[b']?
  | [], _, _ => rfl
  | _ :: r, o, _ => (heap_setCells_ne hne r (o + 1) _).trans (Below.heap_setCell _ _ _ _ hne)

/-- blocks that are neither b nor rb nor a row of bytes stay -/
def KeptO (b rb : Nat) (w w' : World) : Prop := ∀ k o, w.heap[k]? = some o → k ≠ b → k ≠ rb → (∀ c fz, o ≠ .cells c 5 fz) → w'.heap[k]? = some o
theorem KeptO.refl (b rb : Nat) (w : World) : KeptO b rb w w := fun _ _ h _ _ _ => h
theorem KeptO.trans {b rb : Nat} {w w1 w2 : World} (h : KeptO b rb w w1) (k : KeptO b rb w1 w2) : KeptO b rb w w2 := fun i o h1 h2 h3 h4 => k i o (h i o h1 h2 h3 h4) h2 h3 h4
theorem KeptO.heap {b rb : Nat} {w w1 w2 : World} (h : KeptO b rb w w1) (e : w2.heap = w1.heap) : KeptO b rb w w2 := fun i o h1 h2 h3 h4 => by rw [e]; exact h i o h1 h2 h3 h4
theorem KeptO.setB {b rb j : Nat} {w w1 : World} {v : Value} (h : KeptO b rb w w1) : KeptO b rb w (w1.setCell ⟨b, j, none⟩ v) := fun i o h1 h2 h3 h4 => by rw [Below.heap_setCell _ _ _ _ h2]; exact h i o h1 h2 h3 h4
theorem KeptO.setR {b rb j : Nat} {w w1 : World} {v : Value} (h : KeptO b rb w w1) : KeptO b rb w (w1.setCell ⟨rb, j, none⟩ v) := fun i o h1 h2 h3 h4 => by rw [Below.heap_setCell _ _ _ _ h3]; exact h i o h1 h2 h3 h4
theorem KeptO.setBs {b rb : Nat} {w w1 : World} {vs : List Value} {j : Nat} (h : KeptO b rb w w1) : KeptO b rb w (w1.setCells b j vs) := fun i o h1 h2 h3 h4 => by rw [heap_setCells_ne h2]; exact h i o h1 h2 h3 h4
theorem KeptO.ok {b rb : Nat} {w w1 w2 : World} (h : KeptO b rb w w1) (k : Lib.OthersKept 5 (some b) w1 w2) : KeptO b rb w w2 := fun i o h1 h2 h3 h4 => k i o (h i o h1 h2 h3 h4) (fun e => h2 (Option.some.inj e)) h4

theorem read_end (rb : Nat) (T : ByteArray) (w : World) (p ev : Value) (h : RdAt rb T T.size w) (he : w.cell? ⟨10, 0, none⟩ = some ev) :
    Calls Tryz.prog 159 #[.pointer (some ⟨rb, 0, none⟩), p] w fun e w' => e = .returned (.tuple #[.int .i64 0, ev]) ∧ ∃ n, w' = w.drewN n := by
  have c0 := h.s
  have c1 := h.i
  have hle : decide ((T.size : Int) ≤ (T.size : Int)) = true := by simp
  clear h
  go_enter Tryz.func159, Tryz.ntmps159
  go_upto_region 1 with fail
  go_quiet (fail)
  go_upto_region 2 with fail
  go_quiet (fail)
  go_wp2_with fail
  go_ret2
  exact ⟨rfl, _, World.drewN_drewN _ _ _⟩

/-- 'copy(dst, s)' from a string: as much as dst holds -/
theorem run_copy_min (w : World) (dT sT ty elem : TypeId) (b o dLen dCap : Nat) (t : ByteArray) (n : Nat)
    (hu : Tryz.prog.underlying dT = some (.slice elem)) (hz : ∀ w, (Go.sizeOf elem).run Tryz.prog w = .ok 1 w) (hmin : Nat.min t.size dLen = n)
    (hc : ∀ j, j < n → (w.cell? ⟨b, o + j, none⟩).isSome = true) (hf : ∀ j, j < n → w.frozen? ⟨b, o + j, none⟩ = false) :
    (Builtin.copy_ #[dT, sT] ty #[.slice (some ⟨b, o, none⟩) dLen dCap, .string t]).run Tryz.prog w = .ok (goInt n) (w.setCells b o ((t.data.toList.take n).map fun x => Value.int .u8 (x.toNat : Int))) := by
  have hle : n ≤ t.size := by rw [← hmin]; exact Nat.min_le_left _ _
  have hl : ((t.data.toList.take n).map fun x => Value.int .u8 (x.toNat : Int)).length = n := by rw [List.length_map, List.length_take, size_toList]; omega
  have hst := run_storeCells_cells (P := Tryz.prog) b o ((t.data.toList.take n).map fun x => Value.int .u8 (x.toNat : Int)) 0 w (by rw [hl]; simpa using hc) (by rw [hl]; simpa using hf) (by
    intro v hv
    obtain ⟨x, _, rfl⟩ := List.mem_map.1 hv
    rfl)
  rw [List.map_take] at hst ⊢
  simp [Builtin.copy_, run_underlying hu, Builtin.lenOf, Builtin.firstCells, hz, hmin]
  rw [hst]
  rfl

theorem step_copy_min {ops : Array Oper} {o : Oper} {a : Act} {w : World} {K : Act → World → Prop} {Q : Exit → Act → World → Prop} {E : Prop}
    (hg : o.guard = none) (d x : Operand) (dT sT : TypeId) (hop : o.op = Op.call { callee := Callee.builtin Builtin.copy, args := #[d, x], argTypes := #[dT, sT] })
    (elem : TypeId) (hu : Tryz.prog.underlying dT = some (.slice elem)) (hz : ∀ w, (Go.sizeOf elem).run Tryz.prog w = .ok 1 w)
    (b off dLen dCap : Nat) (hd : a.eval d = .slice (some ⟨b, off, none⟩) dLen dCap) (t : ByteArray) (hx : a.eval x = .string t) (n : Nat) (hmin : Nat.min t.size dLen = n)
    (hc : ∀ j, j < n → (w.cell? ⟨b, off + j, none⟩).isSome = true) (hf : ∀ j, j < n → w.frozen? ⟨b, off + j, none⟩ = false) (vs : List Value) (hvs : ((t.data.toList.take n).map fun x => Value.int .u8 (x.toNat : Int)) = vs)
    (hK : K (a.put o.dst (goInt n)) (w.setCells b off vs)) :
    if Region.wanted o (yielded ops a.tmps) = true then Oper.wp Tryz.prog o a w K Q else E := by
  have hw : Region.wanted o (yielded ops a.tmps) = true := by simp [Region.wanted, hg]
  rw [if_pos hw]
  have hrun := run_copy_min w dT sT o.type elem b off dLen dCap t n hu hz hmin hc hf
  rw [hvs] at hrun
  unfold Oper.wp
  simp [execOp, hop, resolve, invoke, builtin, hd, hx, hrun, Result.andThen]
  exact hK

set_option maxHeartbeats 1000000 in
set_option maxRecDepth 100000 in
theorem read_some (B b rb : Nat) (T : ByteArray) (i : Nat) (K : PS) (l : List UInt8) (w : World) (h : RdAt rb T i w) (hS : SAt B b K l w) (hi : i < T.size) (hT : T.size ≤ 2000) (hrB : B ≤ rb) (n : Nat) (hn : n = if T.size - i ≤ 1024 then T.size - i else 1024) :
    Calls Tryz.prog 159 #[.pointer (some ⟨rb, 0, none⟩), .slice (some ⟨b, 1, none⟩) 1024 1025] w fun e w' => e = .returned (.tuple #[.int .i64 n, .nilIface]) ∧ SAt B b { K with buf := fun j => if j < n then (T.data.toList.getD (i + j) 0).toNat else K.buf j } l w' ∧ RdAt rb T (i + n) w' ∧ Below B w w' ∧ KeptO b rb w w' := by
  have c0 := h.s
  have c1 := h.i
  obtain ⟨x, c2⟩ := h.p
  have cf := h.fz
  have hle : decide ((T.size : Int) ≤ (i : Int)) = false := by simp; omega
  go_enter Tryz.func159, Tryz.ntmps159
  go_upto_region 1 with fail
  go_quiet (fail)
  go_upto_region 4 with fail
  have hn1 : n ≤ 1024 := by rw [hn]; split <;> omega
  have hn2 : n ≤ T.size - i := by rw [hn]; split <;> omega
  have hmin : Nat.min (T.extract i T.size).size 1024 = n := by
    rw [hn, ByteArray.size_extract]
    show min _ _ = _
    split <;> omega
  obtain ⟨w1, hw1⟩ : ∃ w1, w1 = (w.drewN nq).setCell ⟨rb, 2, none⟩ (.int .i64 (-1)) := ⟨_, rfl⟩
  rw [← hw1]
  have HR : Hid (RdAt rb T i w1) := by
    show RdAt _ _ _ _
    rw [hw1]
    exact RdAt.setP (h.of_heap rfl) _
  have HS : Hid (SAt B b K l w1) := by
    show SAt _ _ _ _ _
    rw [hw1]
    exact (hS.drewN nq).setRd (i := i) (T := T) (h.of_heap rfl) _
  have HB : Hid (Below B w w1) := by
    show Below _ _ _
    rw [hw1]
    exact Below.setCell (p := ⟨rb, 2, none⟩) (below_drewN (Below.refl _ _) _) hrB _
  have HO : Hid (KeptO b rb w w1) := by
    show KeptO _ _ _ _
    rw [hw1]
    exact ((KeptO.refl b rb w).heap (w2 := w.drewN nq) rfl).setR
  clear hw1
  have d0 := HR.out.s
  have d1 := HR.out.i
  have hile : i ≤ T.size := by omega
  have hcell : ∀ j, j < n → (w1.drew.cell? ⟨b, 1 + j, none⟩).isSome = true := fun j hj => by
    have := HS.out.buf j (by omega)
    have e : w1.drew.cell? ⟨b, 1 + j, none⟩ = w1.cell? ⟨b, 1 + j, none⟩ := rfl
    rw [e, this]
    rfl
  have hfz : ∀ j, j < n → w1.drew.frozen? ⟨b, 1 + j, none⟩ = false := fun j _ => HS.out.fz (1 + j)
  obtain ⟨bs, hbs⟩ : ∃ bs, bs = (T.extract i T.size).data.toList.take n := ⟨_, rfl⟩
  obtain ⟨vs, hvs⟩ : ∃ vs : List Value, (((T.extract i T.size).data.toList.take n).map fun x => Value.int .u8 (x.toNat : Int)) = vs := ⟨_, rfl⟩
  have hbl : bs.length = n := by rw [hbs, List.length_take, size_toList]; rw [← hmin]; exact Nat.min_eq_left (Nat.min_le_left _ _)
  have hbg : ∀ j, j < n → bs.getD j 0 = T.data.toList.getD (i + j) 0 := fun j hj => by
    rw [hbs, List.getD_eq_getElem?_getD, List.getD_eq_getElem?_getD, List.getElem?_take, if_pos hj]
    have e : (T.extract i T.size).data.toList = T.data.toList.drop i := by
      simp [ByteArray.data_extract, Array.toList_extract]
      exact List.take_of_length_le (by simp)
    rw [e, List.getElem?_drop]
  have HV : Hid ((bs.map fun x => Value.int .u8 (x.toNat : Int)) = vs) := by show _ = _; rw [hbs]; exact hvs
  have HVS := Lib.hid hvs
  have HBG := Lib.hid hbg
  have HBL := Lib.hid hbl
  have HC := Lib.hid hcell
  have HF := Lib.hid hfz
  have HN := Lib.hid hn
  have HMIN := Lib.hid hmin
  clear hcell hfz hn hmin hvs hbs hbg hbl
  go_region_law (refine step_copy_min rfl (.tmp 20) (.tmp 29) 59 9 rfl 5 (by rfl) (fun w => by rfl) b 1 1024 1025 (by simp [Act.eval, Act.put]) (T.extract i T.size) (by simp [Act.eval, Act.put]) n HMIN.out HC.out HF.out vs HVS.out ?_)
  all_goals
    obtain ⟨w2, hw2⟩ : ∃ w2, w2 = w1.drew.setCells b 1 vs := ⟨_, rfl⟩
    rw [← hw2]
    have HS2 : Hid (SAt B b { K with buf := fun j => if j < n then (T.data.toList.getD (i + j) 0).toNat else K.buf j } l w2) := by
      have h1 := SAt.setBufs bs 0 K l w1.drew (HS.out.below (Below.refl _ _).drew) (by rw [HBL.out]; omega)
      rw [HV.out, ← hw2, HBL.out] at h1
      have e : ({ K with buf := fun j => if 0 ≤ j ∧ j < 0 + n then (bs.getD (j - 0) 0).toNat else K.buf j } : PS) = { K with buf := fun j => if j < n then (T.data.toList.getD (i + j) 0).toNat else K.buf j } := by
        congr 1
        funext j
        by_cases hj : j < n
        · rw [if_pos (by omega), if_pos hj, Nat.sub_zero, HBG.out j hj]
        · rw [if_neg (by omega), if_neg hj]
      rw [e] at h1
      exact h1
    have HR2 : Hid (RdAt rb T i w2) := by
      show RdAt _ _ _ _
      rw [hw2]
      exact RdAt.of_heap (RdAt.of_heap (w' := w1.drew) HR.out rfl) (heap_setCells_ne (HS.out.ne HR.out) _ _ _)
    have HB2 : Hid (Below B w w2) := by
      show Below _ _ _
      rw [hw2]
      exact below_setCells HS.out.le _ _ _ HB.out.drew
    have HO2 : Hid (KeptO b rb w w2) := by
      show KeptO _ _ _ _
      rw [hw2]
      exact (HO.out.heap (w2 := w1.drew) rfl).setBs
    clear hw2
    have f0 := HR2.out.i
    have ff := HR2.out.fz
    go_wp2_with fail
    go_ret2
    exact ⟨rfl, HS2.out.setRd HR2.out _, HR2.out.setI (i + n), Below.setCell (p := ⟨rb, 1, none⟩) HB2.out hrB _, HO2.out.setR⟩

end Go.Proofs.YtfmkfnochjeleaaGreatDoor
