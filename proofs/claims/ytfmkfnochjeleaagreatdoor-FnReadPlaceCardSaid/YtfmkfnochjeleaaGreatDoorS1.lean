import Derived.Test.YtfmkfnochjeleaaGreatDoorB2
import Derived.Lib.BufferAt
import Derived.Lib.LazyBuf
namespace Go.Proofs.YtfmkfnochjeleaaGreatDoor
open Go.RowKit

/-- what the parser's block holds, the token's buffer aside -/
structure PS where
  src : Value
  buf : Nat → Nat
  sp : Int
  se : Int
  off : Int
  line : Int
  col : Int
  lll : Int
  lcl : Int
  tp : Int
  te : Int
  ch : Int
  ev : Value
  ec : Int
  mode : Int
  ws : Int
  idr : Value
  fname : Value
  po : Int
  pl : Int
  pc : Int
  pk : Value

def RK (K : PS) (i : Nat) : Option Value :=
  if i = 0 then some K.src else if i ≤ 1025 then some (.int .u8 (K.buf (i - 1))) else
  if i = 1026 then some (.int .i64 K.sp) else if i = 1027 then some (.int .i64 K.se) else if i = 1028 then some (.int .i64 K.off) else
  if i = 1029 then some (.int .i64 K.line) else if i = 1030 then some (.int .i64 K.col) else if i = 1031 then some (.int .i64 K.lll) else
  if i = 1032 then some (.int .i64 K.lcl) else
  if i = 1036 then some (.int .i64 K.tp) else if i = 1037 then some (.int .i64 K.te) else if i = 1038 then some (.int .i32 K.ch) else
  if i = 1039 then some K.ev else if i = 1040 then some (.int .i64 K.ec) else if i = 1041 then some (.int .u64 K.mode) else
  if i = 1042 then some (.int .u64 K.ws) else if i = 1043 then some K.idr else if i = 1044 then some K.fname else
  if i = 1045 then some (.int .i64 K.po) else if i = 1046 then some (.int .i64 K.pl) else if i = 1047 then some (.int .i64 K.pc) else
  if i = 1048 then some K.pk else none

/-- the parser's block b, the token's buffer holding the bytes l -/
def SAt (B b : Nat) (K : PS) (l : List UInt8) (w : World) : Prop := LibA.IsBuffer 78 (RK K) 5 B b 1033 (Lib.byteCells l) w

theorem SAt.cell {B b : Nat} {K : PS} {l : List UInt8} {w : World} (h : SAt B b K l w) (i : Nat) (hi : i < 1033 ∨ 1036 ≤ i) : w.cell? ⟨b, i, none⟩ = RK K i := by
  obtain ⟨_, v, lr, h3, _⟩ := h
  exact h3.rest i hi
theorem SAt.fz {B b : Nat} {K : PS} {l : List UInt8} {w : World} (h : SAt B b K l w) (i : Nat) : w.frozen? ⟨b, i, none⟩ = false := by
  obtain ⟨_, v, lr, h3, _⟩ := h
  exact h3.f i
theorem SAt.le {B b : Nat} {K : PS} {l : List UInt8} {w : World} (h : SAt B b K l w) : B ≤ b := h.1
theorem SAt.buf {B b : Nat} {K : PS} {l : List UInt8} {w : World} (h : SAt B b K l w) (k : Nat) (hk : k ≤ 1024) : w.cell? ⟨b, 1 + k, none⟩ = some (.int .u8 (K.buf k)) := by
  rw [h.cell (1 + k) (.inl (by omega))]
  unfold RK
  rw [if_neg (by omega), if_pos (by omega), show 1 + k - 1 = k by omega]

theorem three_setR {w : World} {b o : Nat} {T : TypeId} {R R' : Nat → Option Value} {x y z : Value} (h : LibA.Three w b o T R x y z) (i : Nat) (v : Value) (hi : i < o ∨ o + 3 ≤ i) (hs : R i ≠ none) (hR : ∀ j, j < o ∨ o + 3 ≤ j → R' j = if j = i then some v else R j) :
    LibA.Three (w.setCell ⟨b, i, none⟩ v) b o T R' x y z := by
  obtain ⟨cs, hb, h0, h1, h2, hr⟩ := h
  have hlt : i < cs.size := by
    refine Nat.lt_of_not_le fun hle => hs ?_
    rw [← hr i hi]
    exact Array.getElem?_eq_none hle
  refine ⟨_, Lib.heap_setCell_same (i := i) hb v, by rw [Array.getElem?_setIfInBounds_ne (by omega)]; exact h0, by rw [Array.getElem?_setIfInBounds_ne (by omega)]; exact h1, by rw [Array.getElem?_setIfInBounds_ne (by omega)]; exact h2, fun j hj => ?_⟩
  rw [hR j hj]
  by_cases e : j = i
  · subst e; rw [if_pos rfl]; simp [hlt]
  · rw [if_neg e, Array.getElem?_setIfInBounds_ne (fun h => e h.symm)]; exact hr j hj

theorem SAt.setR {B b : Nat} {K K' : PS} {l : List UInt8} {w : World} (h : SAt B b K l w) (i : Nat) (v : Value) (hi : i < 1033 ∨ 1036 ≤ i) (hs : ∃ u, RK K i = some u) (hR : ∀ j, RK K' j = if j = i then some v else RK K j) : SAt B b K' l (w.setCell ⟨b, i, none⟩ v) := by
  obtain ⟨hB, x, lr, h3, hown, hne⟩ := h
  obtain ⟨u, hu⟩ := hs
  exact ⟨hB, x, lr, three_setR h3 i v hi (by rw [hu]; exact Option.some_ne_none _) (fun j _ => hR j), hown.kept (Lib.grownBy_setCell w b i v) (Or.inr hne), hne⟩

theorem SAt.lt {B b : Nat} {K : PS} {l : List UInt8} {w : World} (h : SAt B b K l w) : b < w.heap.size := by
  obtain ⟨_, v, lr, h3, _⟩ := h
  exact h3.lt
theorem SAt.below {B b : Nat} {w w' : World} {K : PS} {l : List UInt8} (h : SAt B b K l w) (hb : Below w.heap.size w w') : SAt B b K l w' := by
  have hlt := h.lt
  obtain ⟨hB, x, lr, h3, hown, hne⟩ := h
  exact ⟨hB, x, lr, h3.of_heap (hb.block b hlt), hown.kept (row := none) ⟨hb.os, hb.tape, hb.output, hb.size, fun j hj _ => hb.block j hj⟩ (by cases hv : x.ownBlock <;> simp), hne⟩
theorem SAt.drewN {B b : Nat} {w : World} {K : PS} {l : List UInt8} (h : SAt B b K l w) (n : Nat) : SAt B b K l (w.drewN n) := h.below (below_drewN (Below.refl _ _) n)
/-- a cell of another block is turned -/
theorem SAt.setOther {B b b' i : Nat} {w : World} {K : PS} {l : List UInt8} (h : SAt B b K l w) (v : Value) (hb : b' < B) : SAt B b K l (w.setCell ⟨b', i, none⟩ v) := by
  obtain ⟨hB, x, lr, h3, hown, hne⟩ := h
  have h1 : (w.setCell ⟨b', i, none⟩ v).heap[b]? = w.heap[b]? := Below.heap_setCell _ _ _ _ (by show b ≠ b'; omega)
  exact ⟨hB, x, lr, h3.of_heap h1, ownsRow_setCell_below hown (a := ⟨b', i, none⟩) hb v, hne⟩

theorem SAt.setSp {B b : Nat} {K : PS} {l : List UInt8} {w : World} (h : SAt B b K l w) (x : Int) : SAt B b { K with sp := x } l (w.setCell ⟨b, 1026, none⟩ (.int .i64 x)) := by
  refine h.setR 1026 _ (by decide) ⟨_, rfl⟩ fun j => ?_
  by_cases e : j = 1026
  · subst e; rfl
  · rw [if_neg e]; unfold RK; simp only [if_neg e]
theorem SAt.setSe {B b : Nat} {K : PS} {l : List UInt8} {w : World} (h : SAt B b K l w) (x : Int) : SAt B b { K with se := x } l (w.setCell ⟨b, 1027, none⟩ (.int .i64 x)) := by
  refine h.setR 1027 _ (by decide) ⟨_, rfl⟩ fun j => ?_
  by_cases e : j = 1027
  · subst e; rfl
  · rw [if_neg e]; unfold RK; simp only [if_neg e]
theorem SAt.setOff {B b : Nat} {K : PS} {l : List UInt8} {w : World} (h : SAt B b K l w) (x : Int) : SAt B b { K with off := x } l (w.setCell ⟨b, 1028, none⟩ (.int .i64 x)) := by
  refine h.setR 1028 _ (by decide) ⟨_, rfl⟩ fun j => ?_
  by_cases e : j = 1028
  · subst e; rfl
  · rw [if_neg e]; unfold RK; simp only [if_neg e]
theorem SAt.setLine {B b : Nat} {K : PS} {l : List UInt8} {w : World} (h : SAt B b K l w) (x : Int) : SAt B b { K with line := x } l (w.setCell ⟨b, 1029, none⟩ (.int .i64 x)) := by
  refine h.setR 1029 _ (by decide) ⟨_, rfl⟩ fun j => ?_
  by_cases e : j = 1029
  · subst e; rfl
  · rw [if_neg e]; unfold RK; simp only [if_neg e]
theorem SAt.setCol {B b : Nat} {K : PS} {l : List UInt8} {w : World} (h : SAt B b K l w) (x : Int) : SAt B b { K with col := x } l (w.setCell ⟨b, 1030, none⟩ (.int .i64 x)) := by
  refine h.setR 1030 _ (by decide) ⟨_, rfl⟩ fun j => ?_
  by_cases e : j = 1030
  · subst e; rfl
  · rw [if_neg e]; unfold RK; simp only [if_neg e]
theorem SAt.setLll {B b : Nat} {K : PS} {l : List UInt8} {w : World} (h : SAt B b K l w) (x : Int) : SAt B b { K with lll := x } l (w.setCell ⟨b, 1031, none⟩ (.int .i64 x)) := by
  refine h.setR 1031 _ (by decide) ⟨_, rfl⟩ fun j => ?_
  by_cases e : j = 1031
  · subst e; rfl
  · rw [if_neg e]; unfold RK; simp only [if_neg e]
theorem SAt.setLcl {B b : Nat} {K : PS} {l : List UInt8} {w : World} (h : SAt B b K l w) (x : Int) : SAt B b { K with lcl := x } l (w.setCell ⟨b, 1032, none⟩ (.int .i64 x)) := by
  refine h.setR 1032 _ (by decide) ⟨_, rfl⟩ fun j => ?_
  by_cases e : j = 1032
  · subst e; rfl
  · rw [if_neg e]; unfold RK; simp only [if_neg e]
theorem SAt.setTp {B b : Nat} {K : PS} {l : List UInt8} {w : World} (h : SAt B b K l w) (x : Int) : SAt B b { K with tp := x } l (w.setCell ⟨b, 1036, none⟩ (.int .i64 x)) := by
  refine h.setR 1036 _ (by decide) ⟨_, rfl⟩ fun j => ?_
  by_cases e : j = 1036
  · subst e; rfl
  · rw [if_neg e]; unfold RK; simp only [if_neg e]
theorem SAt.setTe {B b : Nat} {K : PS} {l : List UInt8} {w : World} (h : SAt B b K l w) (x : Int) : SAt B b { K with te := x } l (w.setCell ⟨b, 1037, none⟩ (.int .i64 x)) := by
  refine h.setR 1037 _ (by decide) ⟨_, rfl⟩ fun j => ?_
  by_cases e : j = 1037
  · subst e; rfl
  · rw [if_neg e]; unfold RK; simp only [if_neg e]
theorem SAt.setCh {B b : Nat} {K : PS} {l : List UInt8} {w : World} (h : SAt B b K l w) (x : Int) : SAt B b { K with ch := x } l (w.setCell ⟨b, 1038, none⟩ (.int .i32 x)) := by
  refine h.setR 1038 _ (by decide) ⟨_, rfl⟩ fun j => ?_
  by_cases e : j = 1038
  · subst e; rfl
  · rw [if_neg e]; unfold RK; simp only [if_neg e]
theorem SAt.setEv {B b : Nat} {K : PS} {l : List UInt8} {w : World} (h : SAt B b K l w) (x : Value) : SAt B b { K with ev := x } l (w.setCell ⟨b, 1039, none⟩ x) := by
  refine h.setR 1039 _ (by decide) ⟨_, rfl⟩ fun j => ?_
  by_cases e : j = 1039
  · subst e; rfl
  · rw [if_neg e]; unfold RK; simp only [if_neg e]
theorem SAt.setPo {B b : Nat} {K : PS} {l : List UInt8} {w : World} (h : SAt B b K l w) (x : Int) : SAt B b { K with po := x } l (w.setCell ⟨b, 1045, none⟩ (.int .i64 x)) := by
  refine h.setR 1045 _ (by decide) ⟨_, rfl⟩ fun j => ?_
  by_cases e : j = 1045
  · subst e; rfl
  · rw [if_neg e]; unfold RK; simp only [if_neg e]
theorem SAt.setPl {B b : Nat} {K : PS} {l : List UInt8} {w : World} (h : SAt B b K l w) (x : Int) : SAt B b { K with pl := x } l (w.setCell ⟨b, 1046, none⟩ (.int .i64 x)) := by
  refine h.setR 1046 _ (by decide) ⟨_, rfl⟩ fun j => ?_
  by_cases e : j = 1046
  · subst e; rfl
  · rw [if_neg e]; unfold RK; simp only [if_neg e]
theorem SAt.setPc {B b : Nat} {K : PS} {l : List UInt8} {w : World} (h : SAt B b K l w) (x : Int) : SAt B b { K with pc := x } l (w.setCell ⟨b, 1047, none⟩ (.int .i64 x)) := by
  refine h.setR 1047 _ (by decide) ⟨_, rfl⟩ fun j => ?_
  by_cases e : j = 1047
  · subst e; rfl
  · rw [if_neg e]; unfold RK; simp only [if_neg e]
theorem SAt.setBuf {B b : Nat} {K : PS} {l : List UInt8} {w : World} (h : SAt B b K l w) (k x : Nat) (hk : k ≤ 1024) : SAt B b { K with buf := fun j => if j = k then x else K.buf j } l (w.setCell ⟨b, 1 + k, none⟩ (.int .u8 x)) := by
  refine h.setR (1 + k) _ (.inl (by omega)) ⟨.int .u8 (K.buf k), ?_⟩ fun j => ?_
  · unfold RK
    rw [if_neg (by omega), if_pos (by omega), show 1 + k - 1 = k by omega]
  · unfold RK
    by_cases e : j = 1 + k
    · subst e
      rw [if_neg (by omega), if_pos (by omega), if_pos rfl, show 1 + k - 1 = k by omega]
      simp only [if_true]
    · rw [if_neg e]
      by_cases h0 : j = 0
      · rw [if_pos h0, if_pos h0]
      · rw [if_neg h0, if_neg h0]
        by_cases h1 : j ≤ 1025
        · rw [if_pos h1, if_pos h1]
          simp only
          rw [if_neg (by omega)]
        · rw [if_neg h1, if_neg h1]
theorem SAt.setBufs {B b : Nat} : ∀ (vs : List UInt8) (k : Nat) (K : PS) (l : List UInt8) (w : World), SAt B b K l w → k + vs.length ≤ 1025 →
    SAt B b { K with buf := fun j => if k ≤ j ∧ j < k + vs.length then (vs.getD (j - k) 0).toNat else K.buf j } l (w.setCells b (1 + k) (vs.map fun x => Value.int .u8 (x.toNat : Int)))
  | [], k, K, l, w, h, _ => by
    have e : ({ K with buf := fun j => if k ≤ j ∧ j < k + ([] : List UInt8).length then (([] : List UInt8).getD (j - k) 0).toNat else K.buf j } : PS) = K := by
      obtain ⟨a1, a2⟩ := K
      congr 1
      funext j
      rw [if_neg (by simp)]
    rw [e]
    exact h
  | v :: vs, k, K, l, w, h, hl => by
    have hl' : k + (vs.length + 1) ≤ 1025 := hl
    have ih := SAt.setBufs vs (k + 1) _ l _ (h.setBuf k v.toNat (by omega)) (by omega)
    have e : ({ K with buf := fun j => if k ≤ j ∧ j < k + (v :: vs).length then ((v :: vs).getD (j - k) 0).toNat else K.buf j } : PS) = { { K with buf := fun j => if j = k then v.toNat else K.buf j } with buf := fun j => if k + 1 ≤ j ∧ j < k + 1 + vs.length then (vs.getD (j - (k + 1)) 0).toNat else (if j = k then v.toNat else K.buf j) } := by
      congr 1
      funext j
      rw [List.length_cons]
      by_cases e1 : j = k
      · subst e1
        rw [if_pos (by omega), if_neg (by omega), if_pos rfl, Nat.sub_self]
        rfl
      · by_cases e2 : k + 1 ≤ j ∧ j < k + 1 + vs.length
        · rw [if_pos (by omega), if_pos e2, show j - k = (j - (k + 1)) + 1 by omega]
          rfl
        · rw [if_neg (by omega), if_neg e2, if_neg e1]
    rw [e]
    exact ih

end Go.Proofs.YtfmkfnochjeleaaGreatDoor
