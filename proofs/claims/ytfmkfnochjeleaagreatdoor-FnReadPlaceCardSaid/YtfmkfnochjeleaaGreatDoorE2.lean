import Derived.Test.YtfmkfnochjeleaaGreatDoorE1
import Derived.Test.YtfmkfnochjeleaaGreatDoorSh
namespace Go.Proofs.YtfmkfnochjeleaaGreatDoor
open Go.RowKit

/-- an error variable of strconv's -/
def ErrTab (B g : Nat) (w : World) : Prop := ∃ b o t, w.cell? ⟨g, 0, none⟩ = some (.iface 137 (.pointer (some ⟨b, o, none⟩))) ∧ b < B ∧ g < B ∧ w.cell? ⟨b, o, none⟩ = some (.string t) ∧ t.size ≤ 100
theorem ErrTab.below {B b g : Nat} {w w' : World} (h : ErrTab B g w) (hb : Below b w w') (hB : B ≤ b) : ErrTab B g w' := by
  obtain ⟨a, o, t, h1, h2, h3, h4, h5⟩ := h
  refine ⟨a, o, t, ?_, h2, h3, ?_, h5⟩
  · rw [hb.cell (show (⟨g, 0, none⟩ : Addr).block < b by show g < b; omega)]; exact h1
  · rw [hb.cell (show (⟨a, o, none⟩ : Addr).block < b by show a < b; omega)]; exact h4

/-- a *strconv.NumError that the call has made -/
def NumErr (B : Nat) (s : ByteArray) (w : World) (N : Nat) (w' : World) : Prop :=
  w.heap.size ≤ N ∧ ∃ (fn : ByteArray) (b o : Nat) (t : ByteArray), fn.size ≤ 100 ∧ w'.heap[N]? = some (.cells #[.string fn, .string s, .iface 137 (.pointer (some ⟨b, o, none⟩))] 104 (0, 0)) ∧ b < B ∧ w.cell? ⟨b, o, none⟩ = some (.string t) ∧ t.size ≤ 100 ∧ Below w.heap.size w w'

theorem toErr (B : Nat) (fn s : ByteArray) (k : Int) (w : World) (hk : k = 1 ∨ k = 2) (hfn : fn.size ≤ 100) (hs : s.size ≤ 2001) (h1 : ErrTab B 1 w) (h2 : ErrTab B 2 w) :
    Calls Tryz.prog 25 #[.string fn, .string s, .int .i64 0, .int .i64 64, .iface 83 (.int .i64 k)] w fun e w' => ∃ N, e = .returned (.iface 84 (.pointer (some ⟨N, 0, none⟩))) ∧ NumErr B s w N w' := by
  rcases hk with rfl | rfl
  · obtain ⟨b, o, t, g1, g2, g3, g4, g5⟩ := h2
    refine (Tryz.strconv_toError_range fn s 0 64 _ w (by omega) g1 (.inr ⟨_, _, rfl⟩)).mono ?_
    rintro e w' ⟨N, rfl, h3, h4, h5⟩
    exact ⟨N, rfl, h3, fn, b, o, t, hfn, h4, g2, g4, g5, h5⟩
  · obtain ⟨b, o, t, g1, g2, g3, g4, g5⟩ := h1
    refine (Tryz.strconv_toError_syntax fn s 0 64 _ w (by omega) g1 (.inr ⟨_, _, rfl⟩)).mono ?_
    rintro e w' ⟨N, rfl, h3, h4, h5⟩
    exact ⟨N, rfl, h3, fn, b, o, t, hfn, h4, g2, g4, g5, h5⟩

theorem pf18_fin (s : ByteArray) (neg : Bool) (i0 : Nat) (w : World) (h : NumText s neg i0) (B : Nat) (hT : Tabs B w) (hfin : PF (s.data.toList.drop i0) < Fl.I) :
    Calls Tryz.prog 18 #[.string s, .int .i64 64] w fun e w' => e = .returned (.tuple #[.float .f64 (Fl.sg neg (PF (s.data.toList.drop i0))), .nilIface]) ∧ Below w.heap.size w w' := by
  have h1 := pfi_num s neg i0 w h B hT
  obtain ⟨R, hR⟩ : ∃ R, R = PF (s.data.toList.drop i0) := ⟨_, rfl⟩
  rw [← hR] at h1 hfin ⊢
  clear hR
  have he : errOf R = .nilIface := by
    unfold errOf
    exact if_neg (by have : Fl.I = 9218868437227405312 := rfl; omega)
  rw [he] at h1
  have H := Lib.hid h1
  clear h1 he
  go_enter Tryz.func18, Tryz.ntmps18
  go_wp2_with (go_at_call 24; refine H.out.mono ?_; rintro e w' ⟨rfl, hr⟩)
  go_ret2
  exact ⟨rfl, hr⟩

theorem pf18_inf (s : ByteArray) (neg : Bool) (i0 : Nat) (w : World) (h : NumText s neg i0) (B : Nat) (hT : Tabs B w) (e1 : ErrTab B 1 w) (e2 : ErrTab B 2 w) (hfin : PF (s.data.toList.drop i0) = Fl.I) :
    Calls Tryz.prog 18 #[.string s, .int .i64 64] w fun e w' => ∃ f N, e = .returned (.tuple #[.float .f64 f, .iface 84 (.pointer (some ⟨N, 0, none⟩))]) ∧ NumErr B s w N w' := by
  have h1 := pfi_num s neg i0 w h B hT
  obtain ⟨R, hR⟩ : ∃ R, R = PF (s.data.toList.drop i0) := ⟨_, rfl⟩
  rw [← hR] at h1 hfin
  clear hR
  have he : errOf R = .iface 83 (.int .i64 1) := by
    unfold errOf
    exact if_pos hfin
  rw [he] at h1
  have H := Lib.hid h1
  have hT := Lib.hid hT
  have E1 := Lib.hid e1
  have E2 := Lib.hid e2
  have hs := h.size
  have HS := Lib.hid hs
  clear h1 he e1 e2 h
  go_enter Tryz.func18, Tryz.ntmps18
  go_upto_region 2 with (go_at_call 24; refine H.out.mono ?_; rintro e w1 ⟨rfl, hr⟩)
  have C25 := Lib.hid (toErr B ⟨#[80, 97, 114, 115, 101, 70, 108, 111, 97, 116]⟩ s 1 w1 (.inl rfl) (by decide) hs (E1.out.below hr hT.out.size) (E2.out.below hr hT.out.size))
  have hr' := Lib.hid hr
  go_wp2_with (go_at_call 25; refine C25.out.mono ?_; rintro e w2 ⟨N, rfl, hN⟩; have HN := Lib.hid hN; clear hN)
  go_ret2
  obtain ⟨n1, fn, b, o, t, n2, n3, n4, n5, n6, n7⟩ := HN.out
  refine ⟨_, N, rfl, Nat.le_trans hr'.out.size n1, fn, b, o, t, n2, n3, n4, ?_, n6, hr'.out.trans (n7.mono hr'.out.size)⟩
  rw [← hr'.out.cell (show (⟨b, o, none⟩ : Addr).block < w.heap.size by show b < _; have := hT.out.size; omega)]
  exact n5

theorem pf18_bad (s : ByteArray) (w : World) (h : BadText s) (B : Nat) (e1 : ErrTab B 1 w) (e2 : ErrTab B 2 w) :
    Calls Tryz.prog 18 #[.string s, .int .i64 64] w fun e w' => (∃ f, e = .returned (.tuple #[.float .f64 f, .nilIface]) ∧ InfNan f ∧ w = w') ∨ (∃ f N, e = .returned (.tuple #[.float .f64 f, .iface 84 (.pointer (some ⟨N, 0, none⟩))]) ∧ NumErr B s w N w') := by
  have H := Lib.hid (pfi_bad s w h)
  have C25 := Lib.hid (toErr B ⟨#[80, 97, 114, 115, 101, 70, 108, 111, 97, 116]⟩ s 2 w (.inr rfl) (by decide) h.le e1 e2)
  clear h e1 e2
  go_enter Tryz.func18, Tryz.ntmps18
  go_upto_region 2 with (go_at_call 24; refine H.out.mono ?_; rintro e w1 ⟨rfl, f, v, rfl, hv⟩; have HV := Lib.hid hv; clear hv)
  rcases HV.out with ⟨rfl, hf⟩ | rfl
  · have HF := Lib.hid hf
    clear hf HV
    go_wp2_with fail
    go_ret2
    exact .inl ⟨f, rfl, HF.out, rfl⟩
  · clear HV
    go_wp2_with (go_at_call 25; refine C25.out.mono ?_; rintro e w2 ⟨N, rfl, hN⟩; have HN := Lib.hid hN; clear hN)
    go_ret2
    exact .inr ⟨f, N, rfl, HN.out⟩

end Go.Proofs.YtfmkfnochjeleaaGreatDoor
