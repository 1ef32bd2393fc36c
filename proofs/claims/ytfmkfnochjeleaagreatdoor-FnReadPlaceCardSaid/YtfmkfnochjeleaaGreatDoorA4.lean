import Derived.Test.YtfmkfnochjeleaaGreatDoorA3
import Derived.Lib.ConvBytes
import Derived.Lib.AtoiErrMem
namespace Go.Proofs.YtfmkfnochjeleaaGreatDoor
open Go.RowKit

def UpPost (w : World) (e : Ending) (w' : World) : Prop := Below w.heap.size w w' ∧ ∃ u : ByteArray, e = .returned (.string u)

/-- a block of bytes of the call's own -/
def OwnBytes (w : World) (g : Nat) (bs : List UInt8) : Prop :=
  (∀ j (h : j < bs.length), w.cell? ⟨g, j, none⟩ = some (.int .u8 (nb bs[j]))) ∧ (∀ j, j < bs.length → w.frozen? ⟨g, j, none⟩ = false)

theorem bytesWorld_frozen (w : World) (e : TypeId) (s : ByteArray) (j : Nat) (hj : j < s.size) : (Lib.bytesWorld w e s).frozen? ⟨w.heap.size, j, none⟩ = false := by
  simp [World.frozen?, Lib.bytesWorld_at_new, Lib.bytesCells]
  omega

set_option maxHeartbeats 4000000 in
theorem upper_any (s : ByteArray) (w : World) (hs : s.size ≤ 2000) :
    Calls Tryz.prog 16 #[.string s] w (UpPost w) := by
  have cv := Lib.run_convert_string_bytes (P := Tryz.prog) w 9 59 5 s Tryz.underlying9 Tryz.underlying59 Tryz.underlying5
  have hcap : s.size ≤ grownCap w s.size 0 5 := grownCap_ge _ _ _ _
  have hcap2 : grownCap w s.size 0 5 ≤ maxLen := grownCap_le_maxLen _ _ _ _ (by unfold maxLen; omega)
  generalize grownCap w s.size 0 5 = c at *
  unfold maxLen at hcap2
  go_enter Tryz.func16, Tryz.ntmps16
  go_wp2
  go_loopw [4, 5, 10] (fun _ _ iv wr => ∃ (k : Nat) (bs : List UInt8), k ≤ s.size ∧ iv = .int .i64 k ∧ Hid (bs.length = s.size) ∧ OwnBytes wr w.heap.size bs ∧ Below w.heap.size w wr) (fun _ _ iv _ => s.size - (intOf iv).toNat)
  case atStart =>
    refine ⟨0, s.data.toList, by omega, rfl, size_toList s, ⟨fun j hj => ?_, fun j hj => ?_⟩, Lib.bytesWorld_below _ _ _⟩
    · have hj2 : j < s.size := by rw [← size_toList]; exact hj
      rw [Lib.bytesWorld_cell _ _ _ _ hj2, List.getD_eq_getElem?_getD, List.getElem?_eq_getElem hj]; rfl
    · exact bytesWorld_frozen _ _ _ _ (by rw [← size_toList]; exact hj)
  case round =>
    obtain ⟨k, bs, hk, rfl, hl, hO, hB⟩ := hrel
    have HO := Lib.hid hO
    have HB := Lib.hid hB
    clear hO hB cv
    by_cases hlt : k < s.size
    · have hkl : k < bs.length := by rw [hl.out]; exact hlt
      have c0 := HO.out.1 k hkl
      have f0 := HO.out.2 k hkl
      have hb := UInt8.toNat_lt bs[k]
      have HKL := Lib.hid hkl
      have fin : ∀ (x : UInt8), OwnBytes (wr.setCell ⟨w.heap.size, k, none⟩ (.int .u8 (nb x))) w.heap.size (bs.set k x) := by
        intro x
        refine ⟨fun j hj => ?_, fun j hj => ?_⟩
        · have hj' : j < bs.length := by simpa using hj
          rw [List.getElem_set]
          by_cases e : k = j
          · subst e; rw [if_pos rfl]; exact World.cell?_setCell_same _ _ _ c0
          · rw [if_neg e, World.cell?_setCell_other _ _ _ _ (by simp)]; exact HO.out.1 j hj'
        · rw [World.frozen?_setCell]; exact HO.out.2 j (by simpa using hj)
      have HF := Lib.hid fin
      clear fin
      go_wp2
      all_goals go_roundw
      case rel =>
        obtain ⟨x, hx⟩ : ∃ x : UInt8, nb x = nb bs[k] - 97 + 65 := ⟨UInt8.ofNat (bs[k].toNat - 32), by
          have h1 : 97 ≤ nb bs[k] := by assumption
          simp [nb] at h1 ⊢
          omega⟩
        refine ⟨k + 1, bs.set k x, by omega, by go_num, by show _ = _; rw [List.length_set]; exact hl.out, ?_, HB.out.setCell (Nat.le_refl _) _⟩
        have h2 := HF.out x
        rw [hx] at h2
        exact h2
      case measure => simp [intOf]; omega
      case rel => exact ⟨k + 1, bs, by omega, by go_num, hl, HO.out, HB.out⟩
      case measure => simp [intOf]; omega
      case rel => exact ⟨k + 1, bs, by omega, by go_num, hl, HO.out, HB.out⟩
      case measure => simp [intOf]; omega
    · have cb := run_convert_bytes_back (P := Tryz.prog) wr 59 9 5 ⟨w.heap.size, 0, none⟩ c bs Tryz.underlying59 Tryz.underlying5 Tryz.underlying9 (fun j hj => by
        have := HO.out.1 j hj
        rw [show (⟨w.heap.size, 0, none⟩ : Addr).add j = ⟨w.heap.size, j, none⟩ by unfold Addr.add; split <;> simp_all]
        exact this)
      rw [hl.out] at cb
      go_wp2
      go_ret
      exact ⟨HB.out, _, rfl⟩
end Go.Proofs.YtfmkfnochjeleaaGreatDoor
