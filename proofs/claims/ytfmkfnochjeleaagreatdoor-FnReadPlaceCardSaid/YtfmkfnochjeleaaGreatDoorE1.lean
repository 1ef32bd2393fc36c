import Derived.Test.YtfmkfnochjeleaaGreatDoorD8
import Derived.Test.YtfmkfnochjeleaaGreatDoorB4
namespace Go.Proofs.YtfmkfnochjeleaaGreatDoor
open Go.RowKit


/-- atof64 on a token that is no number -/
def BadPost (w : World) (e : Ending) (w' : World) : Prop :=
  w = w' ∧ ∃ (f : Nat) (n : Int) (v : Value), e = .returned (.tuple #[.float .f64 f, .int .i64 n, v]) ∧ ((v = .nilIface ∧ InfNan f) ∨ v = .iface 83 (.int .i64 2))

set_option maxHeartbeats 1000000 in
set_option maxRecDepth 100000 in
theorem atof_bad (s : ByteArray) (w : World) (h : BadText s) : Calls Tryz.prog 40 #[.string s] w (BadPost w) := by
  have C48 := Lib.hid (fun w => special_any s w h.le)
  have C49 := Lib.hid (fun w => readFloat_bad s w h)
  go_enter Tryz.func40, Tryz.ntmps40
  go_upto_if 32 with (go_at_call 48; refine (C48.out _).mono ?_; rintro e w' ⟨rfl, f, n, ok, rfl, hok⟩; have HOK := Lib.hid hok; clear hok)
  cases ok
  · clear HOK
    go_wp2_with (go_at_call 49; refine (C49.out _).mono ?_; rintro e w' ⟨rfl, m, x, i, a, b, c, rfl⟩)
    go_ret3
    exact ⟨rfl, _, _, _, rfl, .inr rfl⟩
  · go_wp2_with fail
    go_ret3
    exact ⟨rfl, _, _, _, rfl, .inl ⟨rfl, HOK.out trivial⟩⟩

set_option maxHeartbeats 1000000 in
set_option maxRecDepth 100000 in
theorem prefix_any (s : ByteArray) (w : World) (v1 v2 v3 : Value) (R : World → Prop) (h : Calls Tryz.prog 40 #[.string s] w fun e w' => e = .returned (.tuple #[v1, v2, v3]) ∧ R w') :
    Calls Tryz.prog 29 #[.string s, .int .i64 64] w fun e w' => e = .returned (.tuple #[v1, v2, v3]) ∧ R w' := by
  have H := Lib.hid h
  go_enter Tryz.func29, Tryz.ntmps29
  go_wp2_with (go_at_call 40; refine H.out.mono ?_; rintro e w' ⟨rfl, hr⟩)
  go_ret3
  exact ⟨rfl, hr⟩

/-- internal/strconv.ParseFloat on number text -/
theorem pfi_num (s : ByteArray) (neg : Bool) (i0 : Nat) (w : World) (h : NumText s neg i0) (B : Nat) (hT : Tabs B w) :
    Calls Tryz.prog 24 #[.string s, .int .i64 64] w fun e w' => e = .returned (.tuple #[.float .f64 (Fl.sg neg (PF (s.data.toList.drop i0))), errOf (PF (s.data.toList.drop i0))]) ∧ Below w.heap.size w w' := by
  have h1 := atof_any s neg i0 w h B hT
  obtain ⟨R, hR⟩ : ∃ R, R = PF (s.data.toList.drop i0) := ⟨_, rfl⟩
  rw [← hR] at h1 ⊢
  clear hR
  have H := Lib.hid (prefix_any s w _ _ _ _ h1)
  have hn : ((s.size : Int) != (s.size : Int)) = false := by simp
  go_enter Tryz.func24, Tryz.ntmps24
  go_wp2_with (go_at_call 29; refine H.out.mono ?_; rintro e w' ⟨rfl, hr⟩)
  go_ret2
  exact ⟨rfl, hr⟩

def Bad2Post (w : World) (e : Ending) (w' : World) : Prop :=
  w = w' ∧ ∃ (f : Nat) (v : Value), e = .returned (.tuple #[.float .f64 f, v]) ∧ ((v = .nilIface ∧ InfNan f) ∨ v = .iface 83 (.int .i64 2))

theorem pfi_bad (s : ByteArray) (w : World) (h : BadText s) : Calls Tryz.prog 24 #[.string s, .int .i64 64] w (Bad2Post w) := by
  have C40 := Lib.hid (atof_bad s w h)
  have H : Hid (Calls Tryz.prog 29 #[.string s, .int .i64 64] w (BadPost w)) := by
    show Calls _ _ _ _ _
    go_enter Tryz.func29, Tryz.ntmps29
    go_wp2_with (go_at_call 40; refine C40.out.mono ?_; rintro e w' ⟨rfl, f, n, v, rfl, hv⟩; have HV := Lib.hid hv; clear hv)
    go_ret3
    exact ⟨rfl, _, _, _, rfl, HV.out⟩
  clear C40
  go_enter Tryz.func24, Tryz.ntmps24
  go_upto_if 19 with (go_at_call 29; refine H.out.mono ?_; rintro e w' ⟨rfl, f, n, v, rfl, hv⟩; have HV := Lib.hid hv; clear hv)
  cases hn : (n != (s.size : Int))
  · go_wp2_with fail
    go_ret2
    exact ⟨rfl, _, _, rfl, HV.out⟩
  · go_wp2_with fail
    go_ret2
    exact ⟨rfl, _, _, rfl, .inr rfl⟩

end Go.Proofs.YtfmkfnochjeleaaGreatDoor
