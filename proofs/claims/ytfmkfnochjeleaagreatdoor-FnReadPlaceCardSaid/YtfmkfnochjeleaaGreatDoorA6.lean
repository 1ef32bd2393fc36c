import Derived.Test.YtfmkfnochjeleaaGreatDoorA4
import Derived.Test.YtfmkfnochjeleaaGreatDoorA5
namespace Go.Proofs.YtfmkfnochjeleaaGreatDoor
open Go.RowKit

def toks (s : ByteArray) : Option (List Tok) := tks s.size s.data.toList false
/-- number tokens have no 0 ahead of another digit -/
def Unpadded (ts : List Tok) : Prop := ∀ t ∈ ts, t.1 = 49 → ¬ pad0 t.2
def AskPost (s : ByteArray) (w : World) (e : Ending) (w' : World) : Prop :=
  Below w.heap.size w w' ∧ ∃ b, e = .returned (.bool b) ∧ (b = true → ∃ ts, toks s = some ts ∧ Unpadded ts)
theorem bcell {W w1 : World} {B : Nat} (hb : Below B W w1) : (∀ b o, b < B → w1.cell? ⟨b, o, none⟩ = W.cell? ⟨b, o, none⟩) ∧ (∀ b o, b < B → w1.frozen? ⟨b, o, none⟩ = W.frozen? ⟨b, o, none⟩) :=
  ⟨fun b o h => hb.cell (p := ⟨b, o, none⟩) h, fun b o h => hb.frozen (p := ⟨b, o, none⟩) h⟩

set_option maxRecDepth 100000 in
set_option maxHeartbeats 8000000 in
theorem asked_any (s : ByteArray) (w : World) (hs : s.size ≤ 2000) :
    Calls Tryz.prog 9 #[.string s] w (AskPost s w) := by
  have cT := tokens_any s w hs
  go_enter Tryz.func9, Tryz.ntmps9
  go_wp2_with fail
  refine cT.mono ?_
  clear cT
  rintro e w1 ⟨hb1, hpost⟩
  cases hts : tks s.size s.data.toList false with
  | none =>
    rw [hts] at hpost
    obtain rfl := hpost
    have HB := Lib.hid hb1
    clear hb1 hts
    go_wp2
    refine wp_loop_rounds 1 ?_
    rw [rounds_succ]
    go_wp2
    go_ret
    exact ⟨HB.out, false, rfl, fun h => by cases h⟩
  | some ts =>
    rw [hts] at hpost
    obtain ⟨v, rfl, hown⟩ := hpost
    have HTS := Lib.hid hts
    have hok := tks_ok _ _ _ _ hts
    rw [size_toList] at hok
    have HOK := Lib.hid hok
    clear hts hok
    rcases toks_at hown with ⟨rfl, h0⟩ | ⟨g, cap, rfl, hbg, hgl, hcap, hcm, hcells⟩
    · have HB := Lib.hid hb1
      clear hb1 hown
      have H0 := Lib.hid h0
      clear h0
      go_wp2
      refine wp_loop_rounds 1 ?_
      rw [rounds_succ]
      go_wp2
      go_ret
      exact ⟨HB.out, true, rfl, fun _ => ⟨ts, HTS.out, fun t ht => by rw [H0.out] at ht; simp at ht⟩⟩
    · have HC := Lib.hid hcells
      have HB1 := Lib.hid hb1
      clear hcells hb1 hown
      have hts2 : ts.length ≤ 2000 := by have := tks_len _ _ _ _ HTS.out; rw [size_toList] at this; omega
      unfold maxLen at hcm
      go_wp2
      go_loopw [7, 6, 15] (fun _ _ iv wr => ∃ k : Nat, k ≤ ts.length ∧ iv = .int .i64 k ∧ Below w1.heap.size w1 wr ∧ (∀ t ∈ ts.take k, t.1 = 49 → ¬ pad0 t.2)) (fun _ _ iv _ => ts.length - (intOf iv).toNat)
      case atStart => exact ⟨0, Nat.zero_le _, rfl, Below.refl _ _, by simp⟩
      case round =>
        obtain ⟨k, hk, rfl, hbr, hun⟩ := hrel
        have HU := Lib.hid hun
        have HBR := Lib.hid hbr
        clear hun hbr
        by_cases hlt : k < ts.length
        · have hcc := HC.out k hlt
          have c1 := (HBR.out.cell (p := ⟨g, k * 2, none⟩) hgl).trans hcc.1
          have c2 := (HBR.out.cell (p := ⟨g, k * 2 + 1, none⟩) hgl).trans hcc.2
          clear hcc
          have hxl : (⟨ts[k].2.toArray⟩ : ByteArray).size ≤ 2000 := by
            have := (HOK.out ts[k] (List.getElem_mem hlt)).1
            show ts[k].2.toArray.size ≤ 2000
            rw [List.size_toArray]; omega
          have hxd : ts[k].1 = 49 → IsDec (⟨ts[k].2.toArray⟩ : ByteArray).data.toList := (HOK.out ts[k] (List.getElem_mem hlt)).2
          have hnext : (ts[k].1 = 49 → ¬ pad0 ts[k].2) → (∀ t ∈ ts.take (k + 1), t.1 = 49 → ¬ pad0 t.2) := fun h t ht => by
            rw [List.take_add_one, List.getElem?_eq_getElem hlt] at ht
            rcases List.mem_append.1 ht with h1 | h1
            · exact HU.out t h1
            · simp at h1; subst h1; exact h
          have hnp : (⟨ts[k].2.toArray⟩ : ByteArray).data.toList = ts[k].2 := rfl
          have HN := Lib.hid hnext
          have HXD := Lib.hid hxd
          have HNP := Lib.hid hnp
          clear hnext hxd hnp
          obtain ⟨x, hx0⟩ : ∃ x : ByteArray, x = ⟨ts[k].2.toArray⟩ := ⟨_, rfl⟩
          rw [← hx0] at c2 hxl
          have HX := Lib.hid hx0
          clear hx0
          obtain ⟨c, hc0⟩ : ∃ c : UInt8, c = ts[k].1 := ⟨_, rfl⟩
          rw [← hc0] at c1
          have HCC := Lib.hid hc0
          clear hc0
          go_wp2_with fail
          refine (upper_any x _ hxl).mono ?_
          rintro e w2 ⟨hb2, u, rfl⟩
          have d1 : w2.cell? ⟨wr.heap.size, 0, none⟩ = some (.int .u8 (nb c)) := (hb2.cell (p := ⟨wr.heap.size, 0, none⟩) (by simp)).trans (by simp)
          have d2 : w2.cell? ⟨wr.heap.size, 1, none⟩ = some (.string x) := (hb2.cell (p := ⟨wr.heap.size, 1, none⟩) (by simp)).trans (by simp)
          have HB2 : Hid (Below w1.heap.size w1 w2) := ((HBR.out.alloc HBR.out.size _).trans (hb2.mono (by have := HBR.out.size; simp; omega)))
          clear hb2 c1 c2
          cases hk49 : (nb c == 49) with
          | true =>
            have hc49 : c = 49 := UInt8.toNat_inj.1 (by have h := beq_iff_eq.1 hk49; show c.toNat = 49; simp only [nb] at h; omega)
            have hdec : IsDec x.data.toList := by rw [HX.out]; exact HXD.out (by rw [← HCC.out]; exact hc49)
            have HDEC := Lib.hid hdec
            have HC49 := Lib.hid hc49
            clear hdec hc49
            go_wp2_with fail
            refine (padded_any x _ hxl HDEC.out).mono ?_
            rintro e w3 ⟨rfl, b, rfl, hpb⟩
            cases b with
            | true =>
              clear hpb
              go_wp2
              go_ret
              exact ⟨HB1.out.trans (HB2.out.mono HB1.out.size), false, rfl, fun h => by cases h⟩
            | false =>
              have HPB := Lib.hid (hpb rfl)
              clear hpb
              go_wp2
              all_goals first
                | (go_ret; exact ⟨HB1.out.trans (HB2.out.mono HB1.out.size), false, rfl, fun h => by cases h⟩)
                | (go_roundw
                   case rel => exact ⟨k + 1, by omega, by go_num, HB2.out, HN.out (fun _ => by have := HPB.out; rw [HX.out] at this; exact this)⟩
                   case measure => simp [intOf]; omega)
          | false =>
            have HC49 : Hid (¬ c = 49) := fun h => by subst h; revert hk49; decide
            go_wp2
            all_goals first
              | (go_ret; exact ⟨HB1.out.trans (HB2.out.mono HB1.out.size), false, rfl, fun h => by cases h⟩)
              | (go_roundw
                 case rel => exact ⟨k + 1, by omega, by go_num, HB2.out, HN.out (fun h => absurd (HCC.out.trans h) HC49.out)⟩
                 case measure => simp [intOf]; omega)
        · go_wp2
          go_ret
          refine ⟨HB1.out.trans (HBR.out.mono HB1.out.size), true, rfl, fun _ => ⟨ts, HTS.out, fun t ht => HU.out t ?_⟩⟩
          rw [List.take_of_length_le (by omega)]; exact ht

theorem info9 : (Tryz.prog.info? 9).map (fun i => (i.zero, i.size, i.bytes)) = some (some (.string ⟨#[]⟩), 1, 16) := by kernel_rfl
theorem one_one (a : Value) (ha : a.oneCell' = true) : ∀ u ∈ [a], u.oneCell' = true := by
  intro u hu; simp at hu; subst hu; exact ha
def textCells (ts : List Tok) : List Value := ts.map fun t => .string ⟨t.2.toArray⟩
def ToksPost (s : ByteArray) (w : World) (e : Ending) (w' : World) : Prop :=
  Below w.heap.size w w' ∧
  match toks s with
  | none => e = .returned (.tuple #[.slice none 0 0, .bool false])
  | some ts => ∃ v, e = .returned (.tuple #[v, .bool true]) ∧ w'.ownsRow w.heap.size 9 1 v ts.length (textCells ts)
theorem own_base {w : World} {B B' e size n : Nat} {v : Value} {xs : List Value} (h : w.ownsRow B' e size v n xs) (hB : B ≤ B') : w.ownsRow B e size v n xs :=
  ⟨h.1, h.2.imp id (fun ⟨g, cap, cur, a, b, c⟩ => ⟨g, cap, cur, a, Nat.le_trans hB b, c⟩)⟩

set_option maxRecDepth 100000 in
set_option maxHeartbeats 8000000 in
theorem Tokens_any (s : ByteArray) (w : World) (hs : s.size ≤ 2000) :
    Calls Tryz.prog 10 #[.string s] w (ToksPost s w) := by
  have cT := tokens_any s w hs
  obtain ⟨i0, hi, hz0, hz1, hz2⟩ := info_parts info9
  go_enter Tryz.func10, Tryz.ntmps10
  go_wp2_with fail
  refine cT.mono ?_
  clear cT
  rintro e w1 ⟨hb1, hpost⟩
  cases hts : tks s.size s.data.toList false with
  | none =>
    rw [hts] at hpost
    obtain rfl := hpost
    have HB := Lib.hid hb1
    have HT := Lib.hid hts
    clear hb1 hts
    go_wp2
    refine wp_loop_rounds 1 ?_
    rw [rounds_succ]
    go_wp2
    go_ret2
    refine ⟨HB.out, ?_⟩
    unfold toks
    rw [HT.out]
    exact rfl
  | some ts =>
    rw [hts] at hpost
    obtain ⟨v, rfl, hown⟩ := hpost
    have HTS := Lib.hid hts
    have hts2 : ts.length ≤ 2000 := by have := tks_len _ _ _ _ hts; rw [size_toList] at this; omega
    clear hts
    rcases toks_at hown with ⟨rfl, h0⟩ | ⟨g, cap, rfl, hbg, hgl, hcap, hcm, hcells⟩
    · have HB := Lib.hid hb1
      clear hb1 hown
      have H0 := Lib.hid h0
      clear h0
      go_wp2
      refine wp_loop_rounds 1 ?_
      rw [rounds_succ]
      go_wp2
      go_ret2
      refine ⟨HB.out, ?_⟩
      unfold toks
      rw [HTS.out, H0.out]
      exact ⟨_, rfl, World.ownsRow_nil _ _ _ _⟩
    · have HC := Lib.hid hcells
      have HB1 := Lib.hid hb1
      clear hcells hb1 hown
      unfold maxLen at hcm
      go_wp2
      go_loopw [2, 6, 14] (fun sv _ iv wr => ∃ k : Nat, k ≤ ts.length ∧ iv = .int .i64 k ∧ Below w1.heap.size w1 wr ∧ wr.ownsRow w1.heap.size 9 1 sv k (textCells (ts.take k))) (fun _ _ iv _ => ts.length - (intOf iv).toNat)
      case atStart => exact ⟨0, Nat.zero_le _, rfl, Below.refl _ _, World.ownsRow_nil _ _ _ _⟩
      case round =>
        obtain ⟨k, hk, rfl, hbr, hown⟩ := hrel
        have HBR := Lib.hid hbr
        have HO := Lib.hid hown
        clear hbr hown
        by_cases hlt : k < ts.length
        · have hcc := HC.out k hlt
          have c1 := (HBR.out.cell (p := ⟨g, k * 2, none⟩) hgl).trans hcc.1
          have c2 := (HBR.out.cell (p := ⟨g, k * 2 + 1, none⟩) hgl).trans hcc.2
          clear hcc
          have K3 : Hid (k + 1 ≤ maxLen) := by show _ ≤ _; unfold maxLen; omega
          have K4 : Hid ((k + 1) * 16 ≤ 140737488355328) := by show _ ≤ _; omega
          have K5 : Hid (∀ o o2, w1.heap.size ≤ ((wr.alloc o).alloc o2).heap.size) := fun o o2 => by have := HBR.out.size; simp; omega
          have K6 : Hid (∀ (o : Obj) (x : Value) (t : TypeId) (j : Nat) (u : Value), [x][j]? = some u → ((wr.alloc o).alloc (.cells #[x] t)).cell? ((⟨wr.heap.size + 1, 0, none⟩ : Addr).add j) = some u) := fun o x t j u h => by
            have h2 := cell_one_new (wr.alloc o) x t j u h
            simpa using h2
          have hsn : Hid (textCells (ts.take k) ++ [.string ⟨ts[k].2.toArray⟩] = textCells (ts.take (k + 1))) := by
            show _ = _
            rw [List.take_add_one, List.getElem?_eq_getElem hlt]; unfold textCells; rw [List.map_append]; rfl
          go_wp2_with (at_builtin; refine wpList_append_own _ rfl _ _ 22 rfl w1.heap.size 9 i0 (.string ⟨#[]⟩) 1 16 Tryz.underlying22 hi hz0 hz1 hz2 rfl (by decide) _ _ _ rfl ((HO.out.alloc _).alloc _) ⟨wr.heap.size + 1, 0, none⟩ 1 1 [.string ⟨ts[k].2.toArray⟩] rfl rfl (K6.out _ _ _) (one_one _ rfl) K3.out K4.out (K5.out _ _) ?_; intro v' w2 hown1 hgrow1 _; have HO1 := Lib.hid hown1; clear hown1; have HG1 := Lib.hid hgrow1; clear hgrow1; refine Hid.out ?_)
          refine Lib.hid ?_
          have HB2 := Lib.hid (((HBR.out.alloc HBR.out.size _).alloc (by have := HBR.out.size; simp; omega) _).grown HG1.out (by have := HBR.out.size; simp; omega) (fun g hg => (HO.out.lt g hg).1))
          clear HG1
          go_wp2
          go_roundw
          case rel => exact ⟨k + 1, by omega, by go_num, HB2.out, by rw [← hsn.out]; exact HO1.out⟩
          case measure => simp [intOf]; omega
        · go_wp2
          go_ret2
          refine ⟨HB1.out.trans (HBR.out.mono HB1.out.size), ?_⟩
          unfold toks
          rw [HTS.out]
          refine ⟨_, rfl, ?_⟩
          obtain rfl : k = ts.length := by omega
          have := own_base HO.out HB1.out.size
          rwa [List.take_length] at this

def PTokPost (s : ByteArray) (w : World) (e : Ending) (w' : World) : Prop :=
  Below w.heap.size w w' ∧
  ((e = .returned (.tuple #[.slice none 0 0, .bool false])) ∨
   ∃ ts v, toks s = some ts ∧ Unpadded ts ∧ s.size ≤ 2000 ∧ e = .returned (.tuple #[v, .bool true]) ∧ w'.ownsRow w.heap.size 9 1 v ts.length (textCells ts))

set_option maxHeartbeats 2000000 in
theorem pTokens_any (s : ByteArray) (w : World) (hm : s.size ≤ 9223372036854775807) : Calls Tryz.prog 4 #[.string s] w (PTokPost s w) := by
  by_cases hs : s.size ≤ 2000
  · go_enter Tryz.func4, Tryz.ntmps4
    go_wp2_with fail
    refine (asked_any s w hs).mono ?_
    rintro e w1 ⟨hb1, b, rfl, hb⟩
    cases b with
    | false =>
      clear hb
      have HB := Lib.hid hb1
      clear hb1
      go_wp2_with fail
      go_ret2
      exact ⟨HB.out, .inl rfl⟩
    | true =>
      obtain ⟨ts, hts, hun⟩ := hb rfl
      have HB := Lib.hid hb1
      have HT := Lib.hid hts
      have HU := Lib.hid hun
      clear hb hb1 hts hun
      go_wp2_with fail
      refine (Tokens_any s w1 hs).mono ?_
      rintro e w2 ⟨hb2, hpost⟩
      rw [HT.out] at hpost
      obtain ⟨v, rfl, hown⟩ := hpost
      have HB2 := Lib.hid hb2
      have HO := Lib.hid hown
      clear hb2 hown
      go_wp2_with fail
      go_ret2
      exact ⟨HB.out.trans (HB2.out.mono HB.out.size), .inr ⟨ts, v, HT.out, HU.out, hs, rfl, own_base HO.out HB.out.size⟩⟩
  · go_enter Tryz.func4, Tryz.ntmps4
    have h1 : (2000 : Int) < s.size := by omega
    go_wp2_with fail
    go_ret2
    exact ⟨Below.refl _ _, .inl rfl⟩
end Go.Proofs.YtfmkfnochjeleaaGreatDoor
