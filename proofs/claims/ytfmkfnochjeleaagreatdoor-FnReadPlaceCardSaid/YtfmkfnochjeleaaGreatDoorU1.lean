import Derived.Test.YtfmkfnochjeleaaGreatDoorT8
namespace Go.Proofs.YtfmkfnochjeleaaGreatDoor
open Go.RowKit

/-- the package's variables -/
structure Vars (B : Nat) (w : World) : Prop where
  tabs : Tabs B w
  e1 : ErrTab B 1 w
  e2 : ErrTab B 2 w
  eof3 : GEof w
  first : FirstTab w
  eof : ∃ p o, w.cell? ⟨10, 0, none⟩ = some (.iface 137 (.pointer (some ⟨p, o, none⟩)))
  globs : 18 < B
theorem Vars.below {B c : Nat} {w w' : World} (h : Vars B w) (hb : Below c w w') (hc : B ≤ c) : Vars B w' := by
  have hg := h.globs
  refine ⟨h.tabs.below hb hc, h.e1.below hb hc, h.e2.below hb hc, ?_, ?_, ?_, h.globs⟩
  · obtain ⟨s, hs⟩ := h.eof3
    exact ⟨s, by rw [hb.cell (show (⟨3, 0, none⟩ : Addr).block < c by show 3 < c; omega)]; exact hs⟩
  · intro c' hc'
    rw [hb.cell (show (⟨12, c', none⟩ : Addr).block < c by show 12 < c; omega)]
    exact h.first c' hc'
  · obtain ⟨p, o, hp⟩ := h.eof
    exact ⟨p, o, by rw [hb.cell (show (⟨10, 0, none⟩ : Addr).block < c by show 10 < c; omega)]; exact hp⟩

set_option maxRecDepth 100000 in
theorem door12 (T : ByteArray) (d : Nat) (hd : d ≤ 3) (ts : List Tok) (B : Nat) (w : World) (hs : T.size ≤ 2000) (ht : toks T = some ts) (hp : Unpadded ts) (hV : Vars B w) (hB : B ≤ w.heap.size) :
    Calls Tryz.prog 12 #[.string T, .int .u8 d] w (PlacePost (wid d) ts B w) := by
  have ht' : tks T.size T.data.toList false = some ts := ht
  obtain ⟨htx, hus⟩ := txt_of hs ht'
  have C19 : Hid (Calls Tryz.prog 19 #[.string T] w fun e w' => ∃ b, e = .returned (.pointer (some ⟨b, 0, none⟩)) ∧ Hid (ParseAt T B b (w.heap.size + 2) ts w' ∧ GEnv T B b (w.heap.size + 2) w' ∧ Below B w w')) := by
    refine (new19 T w).mono ?_
    rintro e w' ⟨b, rfl, h⟩
    obtain ⟨h1, h2, h3, h4⟩ := h.out
    have hb4 := h4.mono hB
    have hV' := hV.below hb4 (Nat.le_refl _)
    exact ⟨b, rfl, parse_start (by omega) h2 h3 ht' hp, ⟨htx, hus, ⟨Nat.le_trans hB h4.size, by omega, hV'.first, hV'.eof, hV'.globs⟩, hV'.tabs, hV'.e1, hV'.e2, hV'.eof3⟩, hb4⟩
  have C20 : Hid (∀ b w1, Hid (ParseAt T B b (w.heap.size + 2) ts w1 ∧ GEnv T B b (w.heap.size + 2) w1 ∧ Below B w w1) → Calls Tryz.prog 20 #[.pointer (some ⟨b, 0, none⟩), .slice none 0 0, .int .u8 d] w1 fun e w' => ∃ v x, e = .returned (.tuple #[v, x]) ∧ Hid (PlacePost (wid d) ts B w (.returned (.tuple #[v, x])) w')) := by
    intro b w1 h
    refine (append20 T B b (w.heap.size + 2) d hd ts w1 h.out.1 h.out.2.1).mono ?_
    rintro e w' (⟨h1, v, rfl, h2⟩ | ⟨l, r, v, h1, rfl, h2, h3⟩)
    · exact ⟨_, _, rfl, .inl ⟨h1, v, rfl, h.out.2.2.trans h2⟩⟩
    · exact ⟨_, _, rfl, .inr ⟨l, r, v, h1, rfl, h.out.2.2.trans h2, h3⟩⟩
  clear hs ht hp hV hB ht' htx hus
  go_enter Tryz.func12, Tryz.ntmps12
  go_wp2_with first | (go_at_call 19; refine C19.out.mono ?_; rintro e w1 ⟨b, rfl, h1⟩) | (go_at_call 20; refine (C20.out _ _ h1).mono ?_; rintro e w2 ⟨v, x, rfl, h2⟩)
  go_ret2
  exact h2.out

/-- what ReadPlace leaves -/
def RPost (n : Nat) (ts : List Tok) (B : Nat) (w : World) (e : Ending) (w' : World) : Prop :=
  ∃ v : Value, ∃ ok : Bool, e = .returned (.tuple #[v, .bool ok]) ∧ Hid (Below B w w' ∧ ok = (pNums n ts).isSome ∧ ∀ l r, pNums n ts = some (l, r) → w'.ownsRow B 27 1 v l.length (l.map flv))

set_option maxRecDepth 100000 in
theorem place7 (T : ByteArray) (d : Nat) (hd : d ≤ 3) (ts : List Tok) (B : Nat) (w : World) (hs : T.size ≤ 2000) (ht : toks T = some ts) (hp : Unpadded ts) (hV : Vars B w) (hB : B ≤ w.heap.size) :
    Calls Tryz.prog 7 #[.string T, .int .i64 d] w (RPost (wid d) ts B w) := by
  have C13 := Lib.hid (dim13 d hd w)
  have C12 := door12 T d hd ts B w hs ht hp hV hB
  cases hn : pNums (wid d) ts with
  | none =>
    have C12' : Hid (Calls Tryz.prog 12 #[.string T, .int .u8 d] w fun e w' => ∃ v, e = .returned (.tuple #[.slice none 0 0, .iface 96 v]) ∧ Hid (Below B w w')) := by
      refine C12.mono ?_
      rintro e w' (⟨h1, v, h2, h3⟩ | ⟨l, r, v, h1, _⟩)
      · exact ⟨v, h2, h3⟩
      · rw [hn] at h1; cases h1
    have HN := Lib.hid hn
    clear C12 hs ht hp hV hB hn
    go_enter Tryz.func7, Tryz.ntmps7
    go_upto_region 2 with first | (go_at_call 13; refine C13.out.mono ?_; rintro e w1 ⟨rfl, rfl⟩) | (go_at_call 12; refine C12'.out.mono ?_; rintro e w2 ⟨v, rfl, h2⟩)
    go_quiet (fail)
    go_wp2_with fail
    go_ret2
    exact ⟨_, _, rfl, below_drewN h2.out _, by rw [HN.out]; rfl, fun l r h => by rw [HN.out] at h; cases h⟩
  | some p =>
    obtain ⟨l, r⟩ := p
    have C12' : Hid (Calls Tryz.prog 12 #[.string T, .int .u8 d] w fun e w' => ∃ v, e = .returned (.tuple #[v, .nilIface]) ∧ Hid (Below B w w' ∧ w'.ownsRow B 27 1 v l.length (l.map flv))) := by
      refine C12.mono ?_
      rintro e w' (⟨h1, _⟩ | ⟨l', r', v, h1, h2, h3, h4⟩)
      · rw [hn] at h1; cases h1
      · rw [hn] at h1
        injection h1 with h1
        injection h1 with h1 h1'
        subst h1 h1'
        exact ⟨v, h2, h3, h4⟩
    have HN := Lib.hid hn
    clear C12 hs ht hp hV hB hn
    go_enter Tryz.func7, Tryz.ntmps7
    go_upto_region 2 with first | (go_at_call 13; refine C13.out.mono ?_; rintro e w1 ⟨rfl, rfl⟩) | (go_at_call 12; refine C12'.out.mono ?_; rintro e w2 ⟨v, rfl, h2⟩)
    go_quiet (fail)
    go_wp2_with fail
    go_ret2
    refine ⟨v, _, rfl, below_drewN h2.out.1 _, by rw [HN.out]; rfl, fun l' r' h => ?_⟩
    rw [HN.out] at h
    injection h with h
    injection h with h h'
    subst h
    exact h2.out.2

end Go.Proofs.YtfmkfnochjeleaaGreatDoor

namespace Go.Proofs.YtfmkfnochjeleaaGreatDoor
open Go.RowKit

/-- a token's first byte tells whether it is a number -/
def HeadOK (t : Tok) : Prop := ∃ c r, t.2 = c :: r ∧ ((t.1 = 49 ∧ IsDec t.2 ∧ ((48 ≤ nb c ∧ nb c ≤ 57) ∨ nb c = 46)) ∨ (t.1 ≠ 49 ∧ ¬ (48 ≤ nb c ∧ nb c ≤ 57) ∧ nb c ≠ 46)) ∧ t.2.length ≤ 2000

theorem tks_head : ∀ (f : Nat) (l : List UInt8) (j : Bool) (ts : List Tok), l.length ≤ 2000 → tks f l j = some ts → ∀ t ∈ ts, HeadOK t
  | 0, [], _, ts, _, h => by simp [tks] at h; subst h; simp
  | f + 1, [], _, ts, _, h => by simp [tks] at h; subst h; simp
  | 0, c :: r, _, ts, _, h => by simp [tks] at h
  | f + 1, c :: r, j, ts, hl, h => by
    have hl' : r.length + 1 ≤ 2000 := hl
    cases hws : isWs c with
    | true =>
      rw [tks_ws hws] at h
      exact tks_head f r false ts (by omega) h
    | false =>
      cases hsg : isSign c with
      | true =>
        cases h3 : (nb c == 45 && j) with
        | true => rw [tks_sign_bad hws hsg h3] at h; cases h
        | false =>
          rw [tks_sign hws hsg h3] at h
          obtain ⟨ts', h', rfl⟩ := Option.map_eq_some_iff.1 h
          intro t ht
          rcases List.mem_cons.1 ht with rfl | ht
          · have hc : nb c = 40 ∨ nb c = 41 ∨ nb c = 44 ∨ nb c = 45 := by
              unfold isSign at hsg
              simpa only [Bool.or_eq_true, beq_iff_eq] using hsg
            refine ⟨c, [], rfl, .inr ⟨fun h49 => ?_, by omega, by omega⟩, by show 1 ≤ 2000; omega⟩
            have h49' : c = 49 := h49
            rw [h49'] at hc
            revert hc; decide
          · exact tks_head f r false ts' (by omega) h' t ht
      | false =>
        cases hlt : isLet c with
        | true =>
          cases j with
          | true => rw [tks_let_bad hws hsg hlt] at h; cases h
          | false =>
            rw [tks_let hws hsg hlt] at h
            obtain ⟨ts', h', rfl⟩ := Option.map_eq_some_iff.1 h
            intro t ht
            rcases List.mem_cons.1 ht with rfl | ht
            · have hp := lets_pos (r := r) hlt
              obtain ⟨k, hk⟩ : ∃ k, lets (c :: r) = k + 1 := ⟨lets (c :: r) - 1, by omega⟩
              have hc := isLet_true hlt
              refine ⟨c, r.take k, by show (c :: r).take _ = _; rw [hk]; rfl, .inr ⟨by show (97 : UInt8) ≠ 49; decide, by omega, by omega⟩, ?_⟩
              show ((c :: r).take _).length ≤ _
              rw [List.length_take]; omega
            · exact tks_head f _ true ts' (by rw [List.length_drop]; omega) h' t ht
        | false =>
          by_cases h4 : deci (c :: r) = 0 ∨ j = true
          · rw [tks_num_bad hws hsg hlt h4] at h; cases h
          · rw [tks_num hws hsg hlt h4] at h
            obtain ⟨ts', h', rfl⟩ := Option.map_eq_some_iff.1 h
            intro t ht
            rcases List.mem_cons.1 ht with rfl | ht
            · have hd := isDec_take (c :: r) (fun e => h4 (.inl e))
              obtain ⟨c', r', h5, h6⟩ := dec_first hd
              refine ⟨c', r', h5, .inl ⟨rfl, hd, ?_⟩, ?_⟩
              · rcases h6 with h6 | h6
                · left
                  unfold dg at h6
                  have := of_decide_eq_true h6
                  unfold nb
                  omega
                · exact .inr h6
              · show ((c :: r).take _).length ≤ _
                rw [List.length_take]; omega
            · exact tks_head f _ true ts' (by rw [List.length_drop]; omega) h' t ht

/-- a list of texts -/
def Texts (B : Nat) (ts : List Tok) (v : Value) (w : World) : Prop :=
  ∃ a c, v = .slice a ts.length c ∧ ts.length ≤ c ∧ c ≤ maxLen ∧ (ts ≠ [] → ∃ g o, a = some ⟨g, o, none⟩ ∧ g < B ∧ ∀ i (h : i < ts.length), w.cell? ⟨g, o + i, none⟩ = some (.string (tokStr ts[i])))
theorem Texts.below {B b : Nat} {ts : List Tok} {v : Value} {w w' : World} (h : Texts B ts v w) (hb : Below b w w') (hB : B ≤ b) : Texts B ts v w' := by
  obtain ⟨a, c, h1, h2, h3, h4⟩ := h
  refine ⟨a, c, h1, h2, h3, fun hn => ?_⟩
  obtain ⟨g, o, g1, g2, g3⟩ := h4 hn
  refine ⟨g, o, g1, g2, fun i hi => ?_⟩
  rw [hb.cell (show (⟨g, o + i, none⟩ : Addr).block < b by show g < b; omega)]
  exact g3 i hi
theorem texts_of {w : World} {base : Nat} {v : Value} {ts : List Tok} (h : w.ownsRow base 9 1 v ts.length (textCells ts)) : Texts w.heap.size ts v w := by
  rcases h.2 with ⟨h1, h2⟩ | ⟨g, cap, cur, h1, h2, h3, h4, h5, h6, h7⟩
  · have e := List.eq_nil_of_length_eq_zero h2
    subst e
    exact ⟨none, 0, h1, Nat.le_refl _, Nat.zero_le _, fun hn => absurd rfl hn⟩
  · refine ⟨some ⟨g, 0, none⟩, cap, h1, h4, h5, fun _ => ⟨g, 0, rfl, (Array.getElem?_eq_some_iff.1 h3).1, fun i hi => ?_⟩⟩
    have add : ∀ j, (⟨g, 0, none⟩ : Addr).add j = ⟨g, j, none⟩ := fun j => by unfold Addr.add; split <;> simp_all
    have hc := h.cells (g := g) (by rw [h1]; rfl)
    have c1 := hc i (.string (tokStr ts[i])) (by unfold textCells; rw [List.getElem?_map, List.getElem?_eq_getElem hi]; rfl)
    rw [add] at c1
    rw [Nat.zero_add]
    exact c1

/-- the sign ahead of a number -/
def signed (neg : Bool) (s : ByteArray) : ByteArray := if neg then minus s else s
theorem num_text {t : Tok} (neg : Bool) (h : IsDec t.2) (hl : t.2.length ≤ 2000) : ∃ i0, NumText (signed neg (tokStr t)) neg i0 ∧ (signed neg (tokStr t)).data.toList.drop i0 = t.2 := by
  have hs : (minus (tokStr t)).size = t.2.length + 1 := by rw [← size_toList]; rfl
  cases neg
  · exact ⟨0, ⟨by show (tokStr t).size ≤ _; rw [tokStr_size]; omega, h, .inl ⟨rfl, rfl⟩⟩, rfl⟩
  · exact ⟨1, ⟨by show (minus (tokStr t)).size ≤ _; rw [hs]; omega, h, .inr ⟨rfl, rfl, by show 0 < (minus (tokStr t)).size; rw [hs]; omega, rfl⟩⟩, rfl⟩

set_option maxRecDepth 100000 in
theorem read11 (t : Tok) (neg : Bool) (B : Nat) (w : World) (h : IsDec t.2) (hl : t.2.length ≤ 2000) (hV : Vars B w)  :
    Calls Tryz.prog 11 #[.string (signed neg (tokStr t))] w fun e w' => ∃ f ok, e = .returned (.tuple #[.float .f64 f, .bool ok]) ∧ Hid (Below w.heap.size w w' ∧ ok = decide (PF t.2 < Fl.I) ∧ (ok = true → f = Fl.sg neg (PF t.2))) := by
  obtain ⟨i0, hn, he⟩ := num_text neg h hl
  obtain ⟨s, hs⟩ : ∃ s, s = signed neg (tokStr t) := ⟨_, rfl⟩
  rw [← hs] at hn he ⊢
  rcases Nat.lt_or_ge (PF t.2) Fl.I with hlt | hge
  · have hc := pf18_fin s neg i0 w hn B hV.tabs (by rw [he]; exact hlt)
    rw [he] at hc
    obtain ⟨R, hR⟩ : ∃ R, R = Fl.sg neg (PF t.2) := ⟨_, rfl⟩
    have hd : decide (PF t.2 < Fl.I) = true := decide_eq_true hlt
    obtain ⟨b, hb⟩ : ∃ b, b = decide (PF t.2 < Fl.I) := ⟨_, rfl⟩
    rw [← hR] at hc ⊢
    rw [← hb] at hd ⊢
    have C18 := Lib.hid hc
    have HD := Lib.hid hd
    clear hc hR hlt hd hb hn he hs hV h hl
    go_enter Tryz.func11, Tryz.ntmps11
    go_upto_region 2 with (go_at_call 18; refine C18.out.mono ?_; rintro e w1 ⟨rfl, h1⟩; have H1 := Lib.hid h1; clear h1)
    go_quiet (fail)
    go_wp2_with fail
    go_ret2
    exact ⟨R, _, rfl, below_drewN H1.out _, HD.out.symm, fun _ => rfl⟩
  · have heq : PF t.2 = Fl.I := Nat.le_antisymm (PF_le t.2) hge
    have hc := pf18_inf s neg i0 w hn B hV.tabs hV.e1 hV.e2 (by rw [he]; exact heq)
    have hd : decide (PF t.2 < Fl.I) = false := decide_eq_false (Nat.not_lt.2 hge)
    obtain ⟨R, hR⟩ : ∃ R, R = Fl.sg neg (PF t.2) := ⟨_, rfl⟩
    obtain ⟨b, hb⟩ : ∃ b, b = decide (PF t.2 < Fl.I) := ⟨_, rfl⟩
    rw [← hR]
    rw [← hb] at hd ⊢
    have C18 : Hid (Calls Tryz.prog 18 #[.string s, .int .i64 64] w fun e w' => ∃ f N, e = .returned (.tuple #[.float .f64 f, .iface 84 (.pointer (some ⟨N, 0, none⟩))]) ∧ Hid (Below w.heap.size w w')) := by
      refine hc.mono ?_
      rintro e w' ⟨f, N, rfl, h1, fn, b, o, tx, h2, h3, h4, h5, h6, h7⟩
      exact ⟨f, N, rfl, h7⟩
    have HD := Lib.hid hd
    clear hc hR hge heq hd hb hn he hs hV h hl
    go_enter Tryz.func11, Tryz.ntmps11
    go_upto_region 2 with (go_at_call 18; refine C18.out.mono ?_; rintro e w1 ⟨f, N, rfl, h1⟩)
    go_quiet (fail)
    go_wp2_with fail
    go_ret2
    exact ⟨f, _, rfl, below_drewN h1.out _, HD.out.symm, fun h => by cases h⟩

end Go.Proofs.YtfmkfnochjeleaaGreatDoor

namespace Go.Proofs.YtfmkfnochjeleaaGreatDoor
open Go.RowKit

theorem head_at {t : Tok} {c : UInt8} {r : List UInt8} (h : t.2 = c :: r) : ∃ h0 : 0 < (tokStr t).size, (tokStr t)[0] = c := by
  have h0 : 0 < (tokStr t).size := by rw [tokStr_size, h]; simp
  refine ⟨h0, ?_⟩
  have e : (tokStr t).data.toList[0]'(by rw [size_toList]; exact h0) = c := by
    have : (tokStr t).data.toList = c :: r := h
    simp only [this, List.getElem_cons_zero]
  exact e

/-- what pNumber leaves -/
def PNPost (ts : List Tok) (B : Nat) (w : World) (e : Ending) (w' : World) : Prop :=
  ∃ f v ok, e = .returned (.tuple #[.float .f64 f, v, .bool ok]) ∧ Hid (Below w.heap.size w w' ∧ ((pNum ts = none ∧ ok = false) ∨ ∃ r, pNum ts = some (f, r) ∧ ok = true ∧ Texts B r v w'))

theorem app_sign (neg : Bool) (s : ByteArray) : (if neg then (⟨#[45]⟩ : ByteArray) else ⟨#[]⟩) ++ s = signed neg s := by
  cases neg
  · show (⟨#[]⟩ : ByteArray) ++ s = s
    apply ByteArray.ext
    simp
  · show (⟨#[45]⟩ : ByteArray) ++ s = minus s
    apply ByteArray.ext
    apply Array.toList_inj.1
    simp [minus]

set_option maxHeartbeats 4000000 in
set_option maxRecDepth 100000 in
theorem pnum6 (ts : List Tok) (v : Value) (B : Nat) (w : World) (h : Texts B ts v w) (hh : ∀ t ∈ ts, HeadOK t) (hV : Vars B w) (hB : B ≤ w.heap.size) (hn : ts.length ≤ 2000) :
    Calls Tryz.prog 6 #[v] w (PNPost ts B w) := by
  obtain ⟨a, cap, rfl, hc, hcm, hcell⟩ := h
  cases ts with
  | nil =>
    go_enter Tryz.func6, Tryz.ntmps6
    go_wp2_with fail
    exact bodyPost_ret (results_tmp3 rfl _ _ _) rfl ⟨0, _, _, rfl, Below.refl _ _, .inl ⟨rfl, rfl⟩⟩
  | cons t r =>
    obtain ⟨g, o, rfl, hg, hcl⟩ := hcell (by simp)
    have c0 : w.cell? ⟨g, o, none⟩ = some (.string (tokStr t)) := hcl 0 (by simp)
    obtain ⟨n, hnn⟩ : ∃ n, n = r.length := ⟨_, rfl⟩
    have hlen : (t :: r).length = n + 1 := by rw [hnn]; rfl
    rw [hlen] at hc hn ⊢
    unfold maxLen at hcm
    have HNN := Lib.hid hnn
    have HCL := Lib.hid hcl
    have HH := Lib.hid hh
    have HV := Lib.hid hV
    clear hnn hlen hcl hcell hh hV
    go_enter Tryz.func6, Tryz.ntmps6
    go_upto_if 14 with fail
    obtain ⟨db, hdb⟩ : ∃ db, db = ((tokStr t).toList == [45]) := ⟨_, rfl⟩
    rw [← hdb]
    have HDB := Lib.hid hdb
    clear hdb
    go_cut [0, 5] from 15 to 16 (fun lv mv wx => ∃ (neg : Bool) (ts1 : List Tok) (a1 : Option Addr) (n1 c1 : Nat) (ms : ByteArray), lv = .slice a1 n1 c1 ∧ mv = .string ms ∧ Hid (ms = (if neg then ⟨#[45]⟩ else ⟨#[]⟩) ∧ n1 = ts1.length ∧ Texts B ts1 (.slice a1 n1 c1) wx ∧ pNum (t :: r) = numOf neg ts1 ∧ (∀ t ∈ ts1, HeadOK t) ∧ Below w.heap.size w wx ∧ ts1.length ≤ 2000))
    case first =>
      by_cases hm : t.2 = [45]
      · have e1 : db = true := by rw [HDB.out, ByteArray.toList_eq, tokStr_list, hm]; rfl
        subst e1
        have HPN := Lib.hid (pNum_minus (r := r) hm)
        clear hm
        go_upto_region 3 with fail
        by_cases hcap : cap = 1
        · subst hcap
          go_quiet (fail)
          go_wp2_with fail
          go_meet
          have hr : r = [] := List.eq_nil_of_length_eq_zero (by have := HNN.out; omega)
          have hn0 : Hid (0 = r.length) := by show _ = _; rw [hr]; rfl
          exact ⟨true, r, _, 0, 0, _, rfl, rfl, rfl, hn0.out, ⟨_, 0, by rw [← hn0.out], by rw [← hn0.out]; omega, Nat.zero_le _, fun h => absurd hr h⟩, HPN.out, fun t ht => HH.out t (List.mem_cons_of_mem _ ht), below_drewN (Below.refl _ _) _, by rw [← hn0.out]; omega⟩
        · go_quiet (fail)
          go_wp2_with fail
          go_meet
          refine ⟨true, r, _, n, _, _, rfl, rfl, rfl, HNN.out, ⟨_, _, by rw [← HNN.out], by rw [← HNN.out]; omega, by unfold maxLen; omega, fun h => ⟨g, o + 1, ?_, hg, fun i hi => ?_⟩⟩, HPN.out, fun t ht => HH.out t (List.mem_cons_of_mem _ ht), below_drewN (Below.refl _ _) _, by rw [← HNN.out]; omega⟩
          · first | rfl | rw [if_neg hcap]
          · have := HCL.out (i + 1) (by simp; omega)
            rw [show o + 1 + i = o + (i + 1) by omega]
            exact this
      · have e1 : db = false := by rw [HDB.out]; exact tokStr_ne hm
        subst e1
        have HPN := Lib.hid (pNum_plain (r := r) hm)
        clear hm
        go_wp2_with fail
        go_meet
        refine ⟨false, t :: r, _, n + 1, _, _, rfl, rfl, rfl, ?_, ⟨_, _, ?_, ?_, by unfold maxLen; omega, fun h => ⟨g, o, rfl, hg, HCL.out⟩⟩, HPN.out, HH.out, Below.refl _ _, ?_⟩
        · show n + 1 = r.length + 1
          rw [← HNN.out]
        · show Value.slice _ (n + 1) _ = Value.slice _ (r.length + 1) _
          rw [← HNN.out]
        · show r.length + 1 ≤ _
          rw [← HNN.out]; exact hc
        · show r.length + 1 ≤ _
          rw [← HNN.out]; exact hn
    case rest =>
      obtain ⟨neg, ts1, a1, n1, c1, ms, rfl, rfl, hcut⟩ := hcut
      clear c0 hc hcm hg hn HNN HCL HH HDB
      obtain ⟨q0, q1, q2, q3, q4, q5, q6⟩ := hcut.out
      have hV1 := HV.out.below q5 hB
      have HPN := Lib.hid q3
      have HB := Lib.hid q5
      cases ts1 with
      | nil =>
        have e1 : n1 = 0 := q1
        subst e1
        clear q0 q1 q2 q3 q4 q5 q6 hV1 hcut
        go_wp2_with fail
        go_ret3
        exact ⟨0, _, _, rfl, HB.out, .inl ⟨HPN.out, rfl⟩⟩
      | cons t2 r2 =>
        obtain ⟨a, c, hsl, hc, hcm, hcell⟩ := q2
        injection hsl with hsl1 hsl2 hsl3
        subst hsl1 hsl3
        obtain ⟨g2, o2, ha, hg2, hcl2⟩ := hcell (by simp)
        subst ha
        have c0 : wc.cell? ⟨g2, o2, none⟩ = some (.string (tokStr t2)) := hcl2 0 (by simp)
        obtain ⟨n, hn⟩ : ∃ n, n = r2.length := ⟨_, rfl⟩
        have hlen : n1 = n + 1 := by rw [hn]; exact q1
        subst hlen
        unfold maxLen at hcm
        have hc' : n + 1 ≤ c1 := hsl2 ▸ hc
        have l1 : ((n : Int) + 1 == 0) = false := by rw [beq_eq_false_iff_ne]; omega
        obtain ⟨c, r', hcr, hcls, hl⟩ := q4 t2 (by simp)
        obtain ⟨h0, hc0⟩ := head_at hcr
        have hts : (tokStr t2).size ≤ 2000 := by rw [tokStr_size]; exact hl
        have hms : ms.size ≤ 10 := by rw [q0]; cases neg <;> decide
        rcases hcls with ⟨h49, hdec, hd⟩ | ⟨h49, hnd, h46⟩
        · have C11 : Hid (Calls Tryz.prog 11 #[.string (ms ++ tokStr t2)] wc fun e w' => ∃ f ok, e = .returned (.tuple #[.float .f64 f, .bool ok]) ∧ Hid (Below wc.heap.size wc w' ∧ ok = decide (PF t2.2 < Fl.I) ∧ (ok = true → f = Fl.sg neg (PF t2.2)))) := by
            rw [q0, app_sign]
            exact read11 t2 neg B wc hdec hl hV1
          have HFIN : Hid (∀ (f : Nat) (ok : Bool) w', (Below wc.heap.size wc w' ∧ ok = decide (PF t2.2 < Fl.I) ∧ (ok = true → f = Fl.sg neg (PF t2.2))) → ∀ v, Texts B r2 v w' → Below w.heap.size w w' ∧ ((pNum (t :: r) = none ∧ ok = false) ∨ ∃ r', pNum (t :: r) = some (f, r') ∧ ok = true ∧ Texts B r' v w')) := by
            intro f ok w' h v hv
            refine ⟨q5.trans (h.1.mono q5.size), ?_⟩
            rcases Nat.lt_or_ge (PF t2.2) Fl.I with hlt | hge
            · rw [decide_eq_true hlt] at h
              refine .inr ⟨r2, ?_, h.2.1, hv⟩
              rw [q3, numOf_some h49 hlt, h.2.2 h.2.1]
            · rw [decide_eq_false (Nat.not_lt.2 hge)] at h
              refine .inl ⟨?_, h.2.1⟩
              rw [q3, numOf_none (fun hh => Nat.lt_irrefl _ (Nat.lt_of_lt_of_le hh.2 hge))]
          have HTX : Hid (∀ w', Below wc.heap.size wc w' → ∀ a : Option Addr, (c1 ≠ 1 → a = some ⟨g2, o2 + 1, none⟩) → Texts B r2 (.slice a n (c1 - 1)) w') := by
            intro w' hb a ha
            refine ⟨a, c1 - 1, by rw [hn], by rw [← hn]; omega, by unfold maxLen; omega, fun hne => ⟨g2, o2 + 1, ha (fun h => hne (List.eq_nil_of_length_eq_zero (by omega))), hg2, fun i hi => ?_⟩⟩
            rw [hb.cell (show (⟨g2, o2 + 1 + i, none⟩ : Addr).block < wc.heap.size by show g2 < _; have := q5.size; omega)]
            have := hcl2 (i + 1) (by simp; omega)
            rw [show o2 + 1 + i = o2 + (i + 1) by omega]
            exact this
          have K1 : Hid (∀ w', Below wc.heap.size wc w' → w'.cell? ⟨g2, o2, none⟩ = some (.string (tokStr t2))) := fun w' hb => by
            rw [hb.cell (show (⟨g2, o2, none⟩ : Addr).block < wc.heap.size by show g2 < _; have := q5.size; omega)]
            exact c0
          have HN0 : Hid (c1 = 1 → n = 0) := fun h => by omega
          have HD := Lib.hid hd
          clear q0 q1 q3 q4 q5 q6 hV1 hcut hcl2 hcell hcr hn hdec hd h49 hl hc hsl2 HPN HB
          by_cases hdig : 48 ≤ nb c ∧ nb c ≤ 57
          · have d1 : decide ((48 : Int) ≤ (c.toNat : Int)) = true := decide_eq_true hdig.1
            have d2 : decide ((c.toNat : Int) ≤ 57) = true := decide_eq_true hdig.2
            clear hdig
            go_upto_region 7 with (go_at_call 11; refine C11.out.mono ?_; rintro e w2 ⟨f, ok, rfl, h2⟩)
            by_cases hcap : c1 = 1
            · subst hcap
              obtain rfl := HN0.out rfl
              go_quiet (fail)
              go_wp2_with fail
              go_ret3
              exact ⟨f, _, ok, rfl, HFIN.out f ok _ ⟨below_drewN h2.out.1 _, h2.out.2⟩ _ (HTX.out _ (below_drewN h2.out.1 _) _ (fun h => absurd rfl h))⟩
            · go_quiet (fail)
              go_wp2_with fail
              go_ret3
              exact ⟨f, _, ok, rfl, HFIN.out f ok _ ⟨below_drewN h2.out.1 _, h2.out.2⟩ _ (HTX.out _ (below_drewN h2.out.1 _) _ (fun _ => rfl))⟩
          · have d1 : decide ((48 : Int) ≤ (c.toNat : Int)) = false := decide_eq_false (by have := HD.out; simp only [nb] at this hdig; omega)
            have d2 : ((c.toNat : Int) == 46) = true := by rw [beq_iff_eq]; have := HD.out; simp only [nb] at this hdig; omega
            clear hdig
            go_upto_region 7 with (go_at_call 11; refine C11.out.mono ?_; rintro e w2 ⟨f, ok, rfl, h2⟩)
            by_cases hcap : c1 = 1
            · subst hcap
              obtain rfl := HN0.out rfl
              go_quiet (fail)
              go_wp2_with fail
              go_ret3
              exact ⟨f, _, ok, rfl, HFIN.out f ok _ ⟨below_drewN h2.out.1 _, h2.out.2⟩ _ (HTX.out _ (below_drewN h2.out.1 _) _ (fun h => absurd rfl h))⟩
            · go_quiet (fail)
              go_wp2_with fail
              go_ret3
              exact ⟨f, _, ok, rfl, HFIN.out f ok _ ⟨below_drewN h2.out.1 _, h2.out.2⟩ _ (HTX.out _ (below_drewN h2.out.1 _) _ (fun _ => rfl))⟩
        · have HNONE : Hid (pNum (t :: r) = none) := q3.trans (numOf_none (fun hh => h49 hh.1))
          have d3 : ((c.toNat : Int) == 46) = false := by rw [beq_eq_false_iff_ne]; exact h46
          by_cases h48 : 48 ≤ nb c
          · have d1 : decide ((48 : Int) ≤ (c.toNat : Int)) = true := decide_eq_true h48
            have d2 : decide ((c.toNat : Int) ≤ 57) = false := decide_eq_false (by simp only [nb] at hnd h48; omega)
            clear q0 q1 q3 q4 q5 q6 hV1 hcut hcl2 hcell hcr hn h49 hl hc hsl2 hnd h46 h48
            go_wp2_with fail
            go_ret3
            exact ⟨0, _, _, rfl, HB.out, .inl ⟨HNONE.out, rfl⟩⟩
          · have d1 : decide ((48 : Int) ≤ (c.toNat : Int)) = false := decide_eq_false h48
            clear q0 q1 q3 q4 q5 q6 hV1 hcut hcl2 hcell hcr hn h49 hl hc hsl2 hnd h46 h48
            go_wp2_with fail
            go_ret3
            exact ⟨0, _, _, rfl, HB.out, .inl ⟨HNONE.out, rfl⟩⟩

end Go.Proofs.YtfmkfnochjeleaaGreatDoor

namespace Go.Proofs.YtfmkfnochjeleaaGreatDoor
open Go.RowKit

/-- a list of numbers in memory -/
def Nums (l : List Nat) (v : Value) (w : World) : Prop := ∃ g cap, v = .slice (some ⟨g, 0, none⟩) l.length cap ∧ l.length ≤ cap ∧ ∀ i (h : i < l.length), w.cell? ⟨g, i, none⟩ = some (flv l[i])
theorem nums_of {B : Nat} {w : World} {v : Value} {l : List Nat} (h : w.ownsRow B 27 1 v l.length (l.map flv)) (hl : 0 < l.length) : Nums l v w := by
  rcases h.2 with ⟨h1, h2⟩ | ⟨g, cap, cur, h1, h2, h3, h4, h5, h6, h7⟩
  · omega
  · refine ⟨g, cap, h1, h4, fun i hi => ?_⟩
    have add : ∀ j, (⟨g, 0, none⟩ : Addr).add j = ⟨g, j, none⟩ := fun j => by unfold Addr.add; split <;> simp_all
    have hc := h.cells (g := g) (by rw [h1]; rfl)
    have c1 := hc i (flv l[i]) (by rw [List.getElem?_map, List.getElem?_eq_getElem hi]; rfl)
    rw [add] at c1
    exact c1

set_option maxHeartbeats 4000000 in
set_option maxRecDepth 100000 in
theorem same8 (l : List Nat) (v1 v2 : Value) (w : World) (h1 : Nums l v1 w) (h2 : Nums l v2 w) (hl : l.length ≤ 2000) :
    Calls Tryz.prog 8 #[v1, v2] w fun e w' => e = .returned (.bool true) ∧ ∃ n, w' = w.drewN n := by
  obtain ⟨g1, c1, rfl, hc1, k1⟩ := h1
  obtain ⟨g2, c2, rfl, hc2, k2⟩ := h2
  obtain ⟨n, hn⟩ : ∃ n, n = l.length := ⟨_, rfl⟩
  have HN := Lib.hid hn
  have HK1 := Lib.hid k1
  have HK2 := Lib.hid k2
  have c14 := call14
  rw [← hn] at hc1 hc2 hl ⊢
  clear k1 k2 hn
  go_enter Tryz.func8, Tryz.ntmps8
  go_wp2_with fail
  go_loopw [5, 6, 14] (fun _ _ iv wr => ∃ k : Nat, k ≤ n ∧ iv = .int .i64 k ∧ Hid (∃ m, wr = w.drewN m)) (fun _ _ iv _ => n - (intOf iv).toNat)
  case atStart => exact ⟨0, Nat.zero_le _, rfl, 0, rfl⟩
  case round =>
    obtain ⟨k, hk, rfl, hw⟩ := hrel
    obtain ⟨m, hw⟩ := hw.out
    subst hw
    by_cases hlt : k < n
    · obtain ⟨x, hx⟩ : ∃ x, x = l[k]'(by rw [← HN.out]; exact hlt) := ⟨_, rfl⟩
      have a1 : w.cell? ⟨g1, k, none⟩ = some (.float .f64 x) := by rw [hx]; exact HK1.out k (by rw [← HN.out]; exact hlt)
      have a2 : w.cell? ⟨g2, k, none⟩ = some (.float .f64 x) := by rw [hx]; exact HK2.out k (by rw [← HN.out]; exact hlt)
      have hlt2 : (k : Int) < (n : Int) := by omega
      clear hx
      go_upto_region 6 with fail
      go_quiet (fail)
      go_wp2_with fail
      go_roundw
      case rel => exact ⟨k + 1, by omega, by go_num, _, rfl⟩
      case measure => simp [intOf]; omega
    · go_wp2_with fail
      go_ret
      exact ⟨rfl, m, rfl⟩
end Go.Proofs.YtfmkfnochjeleaaGreatDoor

namespace Go.Proofs.YtfmkfnochjeleaaGreatDoor
open Go.RowKit

theorem Vars.mono {B B' : Nat} {w : World} (h : Vars B w) (hB : B ≤ B') (hs : B' ≤ w.heap.size) : Vars B' w := by
  obtain ⟨⟨t1, t2, t3, t4, t5, ⟨a1, o1, p1, p2, p3⟩, ⟨a2, o2, q1, q2, q3, q4⟩, ⟨a3, o3, r1, r2, r3, r4⟩⟩, ⟨b4, o4, s1, s2, s3, s4, s5, s6⟩, ⟨b5, o5, s7, s8, s9, s10, s11, s12⟩, h3, h4, h5, h6⟩ := h
  exact ⟨⟨hs, by omega, t3, t4, t5, ⟨a1, o1, p1, by omega, p3⟩, ⟨a2, o2, q1, by omega, by omega, q4⟩, ⟨a3, o3, r1, by omega, by omega, r4⟩⟩, ⟨b4, o4, s1, s2, by omega, by omega, s5, s6⟩, ⟨b5, o5, s7, s8, by omega, by omega, s11, s12⟩, h3, h4, h5, by omega⟩
theorem own_below {B n : Nat} {v : Value} {xs : List Value} {w w' : World} (h : w.ownsRow B 27 1 v n xs) (hb : Below w.heap.size w w') : w'.ownsRow B 27 1 v n xs := by
  refine ⟨h.1, ?_⟩
  rcases h.2 with h0 | ⟨g, cap, cur, hv, hb2, hgg, hr⟩
  · exact .inl h0
  · exact .inr ⟨g, cap, cur, hv, hb2, by rw [hb.block g (Array.getElem?_eq_some_iff.1 hgg).1]; exact hgg, hr⟩

theorem pNum_len {ts r : List Tok} {x : Nat} (h : pNum ts = some (x, r)) : ∀ t ∈ r, t ∈ ts := by
  have hn : ∀ neg ts, numOf neg ts = some (x, r) → ∀ t ∈ r, t ∈ ts := by
    intro neg ts h
    cases ts with
    | nil => simp [numOf] at h
    | cons t ts =>
      simp only [numOf] at h
      split at h
      · injection h with h
        injection h with _ h
        subst h
        exact fun u hu => List.mem_cons_of_mem _ hu
      · cases h
  cases ts with
  | nil => simp [pNum] at h
  | cons t ts =>
    simp only [pNum] at h
    split at h
    · exact fun u hu => List.mem_cons_of_mem _ (hn _ _ h u hu)
    · exact hn _ _ h
theorem pNum_le {ts r : List Tok} {x : Nat} (h : pNum ts = some (x, r)) : r.length ≤ ts.length := by
  have hn : ∀ neg ts, numOf neg ts = some (x, r) → r.length ≤ ts.length := by
    intro neg ts h
    cases ts with
    | nil => simp [numOf] at h
    | cons t ts =>
      simp only [numOf] at h
      split at h
      · injection h with h
        injection h with _ h
        subst h
        exact Nat.le_succ _
      · cases h
  cases ts with
  | nil => simp [pNum] at h
  | cons t ts =>
    simp only [pNum] at h
    split at h
    · exact Nat.le_succ_of_le (hn _ _ h)
    · exact hn _ _ h

set_option maxHeartbeats 8000000 in
set_option maxRecDepth 100000 in
theorem law3 (s : ByteArray) (d : Int) (w : World) (hs : s.size ≤ 9223372036854775807) (hV : Vars w.heap.size w) :
    Calls Tryz.prog 3 #[.string s, .int .i64 d] w fun e w' => e = .returned (.bool true) ∧ Below w.heap.size w w' := by
  obtain ⟨i0, hi, hz0, hz1, hz2⟩ := info_parts info27
  have C4 : Hid (Calls Tryz.prog 4 #[.string s] w fun e w' => ∃ v ok, e = .returned (.tuple #[v, .bool ok]) ∧ Hid (Below w.heap.size w w' ∧ (ok = true → ∃ ts, toks s = some ts ∧ Unpadded ts ∧ s.size ≤ 2000 ∧ Texts w'.heap.size ts v w'))) := by
    refine (pTokens_any s w hs).mono ?_
    rintro e w' ⟨h1, rfl | ⟨ts, v, h2, h3, h4, rfl, h5⟩⟩
    · exact ⟨_, _, rfl, h1, fun h => by cases h⟩
    · exact ⟨_, _, rfl, h1, fun _ => ⟨ts, h2, h3, h4, texts_of h5⟩⟩
  have HV := Lib.hid hV
  clear hV
  by_cases hbig : 2147483647 < s.size
  · have hb : (2147483647 : Int) < (s.size : Int) := by omega
    go_enter Tryz.func3, Tryz.ntmps3
    go_wp2_with fail
    go_ret
    exact ⟨rfl, Below.refl _ _⟩
  · have hb : ¬ (2147483647 : Int) < (s.size : Int) := by omega
    go_enter Tryz.func3, Tryz.ntmps3
    go_upto_region 4 with (go_at_call 4; refine C4.out.mono ?_; rintro e w1 ⟨v, ok, rfl, h1⟩)
    cases ok with
    | false =>
      go_wp2_with fail
      go_ret
      exact ⟨rfl, h1.out.1⟩
    | true =>
      by_cases hd0 : d < 0
      · go_wp2_with fail
        go_ret
        exact ⟨rfl, h1.out.1⟩
      · by_cases hd3 : 3 < d
        · go_wp2_with fail
          go_ret
          exact ⟨rfl, h1.out.1⟩
        · obtain ⟨k, rfl⟩ : ∃ k : Nat, d = k := ⟨d.toNat, by omega⟩
          have hk3 : k ≤ 3 := by omega
          obtain ⟨ts, t1, t2, t3, t4⟩ := h1.out.2 rfl
          have hhead := tks_head s.size s.data.toList false ts (by rw [size_toList]; exact t3) t1
          have htl : ts.length ≤ 2000 := by have := tks_len _ _ _ _ t1; rw [size_toList] at this; omega
          have C5 := Lib.hid (fun w => wid5 k hk3 w)
          obtain ⟨B, hB⟩ : ∃ B, B = w1.heap.size := ⟨_, rfl⟩
          have hV1 : Vars B w1 := by rw [hB]; exact (HV.out.below h1.out.1 (Nat.le_refl _)).mono h1.out.1.size (Nat.le_refl _)
          rw [← hB] at t4
          obtain ⟨n, hn⟩ : ∃ n, n = wid k := ⟨_, rfl⟩
          rw [← hn] at C5
          have hn4 : n ≤ 4 := by rw [hn]; exact wid_le k
          have hn2 : 2 ≤ n := by rw [hn]; unfold wid; split <;> (try split) <;> omega
          have H1 := Lib.hid h1.out.1
          have HN := Lib.hid hn
          have HT1 := Lib.hid t1
          have HT2 := Lib.hid t2
          have HT3 := Lib.hid t3
          have HT4 := Lib.hid t4
          have HH := Lib.hid hhead
          have HTL := Lib.hid htl
          have HB := Lib.hid hB
          have HV1 := Lib.hid hV1
          clear h1 t1 t2 t3 t4 hhead htl hB hV1 hn C4
          go_wp2_with fail
          go_loopw [5, 7, 8, 9] (fun lv wv fv iv wr => ∃ (j : Nat) (fine : Bool), j ≤ n ∧ iv = .int .i64 j ∧ fv = .bool fine ∧ Hid (Below B w1 wr) ∧ Hid (fine = false → pNums n ts = none) ∧ Hid (∃ acc : List Nat, acc.length = j ∧ wr.ownsRow B 27 1 wv j (acc.map flv) ∧ (fine = true → ∃ tk, pNums n ts = (pNums (n - j) tk).map (fun p => (acc ++ p.1, p.2)) ∧ (∀ t ∈ tk, HeadOK t) ∧ tk.length ≤ 2000 ∧ Texts B tk lv wr))) (fun _ _ _ iv _ => n - (intOf iv).toNat)
          case atStart =>
            have g1 : Hid (true = false → pNums n ts = none) := fun h => by cases h
            have g2 : Hid (∃ acc : List Nat, acc.length = 0 ∧ w1.ownsRow B 27 1 (.slice none 0 0) 0 (acc.map flv) ∧ (true = true → ∃ tk, pNums n ts = (pNums (n - 0) tk).map (fun p => (acc ++ p.1, p.2)) ∧ (∀ t ∈ tk, HeadOK t) ∧ tk.length ≤ 2000 ∧ Texts B tk v w1)) := by
              refine ⟨[], rfl, World.ownsRow_nil _ _ _ _, fun _ => ⟨ts, ?_, HH.out, HTL.out, HT4.out⟩⟩
              rw [Nat.sub_zero]
              cases pNums n ts <;> rfl
            exact ⟨0, true, Nat.zero_le _, rfl, rfl, Below.refl _ _, g1, g2⟩
          case round =>
            obtain ⟨j, fine, hj, rfl, rfl, hbe, hno, hacc⟩ := hrel
            obtain ⟨acc, ha1, ha2, ha3⟩ := hacc.out
            have hV2 := HV1.out.below hbe.out (Nat.le_refl _)
            have hB2 : B ≤ wr.heap.size := by have := HB.out; have := hbe.out.size; omega
            by_cases hgo : j < n ∧ fine = true
            · obtain ⟨hlt, rfl⟩ := hgo
              obtain ⟨tk, p1, p2, p3, p4⟩ := ha3 rfl
              have hlt2 : (j : Int) < (n : Int) := by omega
              have C6 : Hid (Calls Tryz.prog 6 #[u5] wr fun e w' => ∃ f v ok, e = .returned (.tuple #[.float .f64 f, v, .bool ok]) ∧ Hid (Below wr.heap.size wr w' ∧ ((pNum tk = none ∧ ok = false) ∨ ∃ r, pNum tk = some (f, r) ∧ ok = true ∧ Texts B r v w'))) := pnum6 tk u5 B wr p4 p2 hV2 hB2 p3
              have K3 : Hid (j + 1 ≤ maxLen) := by show _ ≤ _; unfold maxLen; omega
              have K4 : Hid ((j + 1) * 8 ≤ 140737488355328) := by show _ ≤ _; omega
              have HA2 := Lib.hid ha2
              have HB2 := Lib.hid hB2
              have HP : Hid (pNums n ts = (pNums (n - j) tk).map (fun p => (acc ++ p.1, p.2))) := p1
              have HP2 := Lib.hid p2
              have HP3 := Lib.hid p3
              have HAL := Lib.hid ha1
              clear ha1 ha2 ha3 p1 p2 p3 p4 hV2 hB2 hacc
              have K5 : Hid (∀ w2, Below wr.heap.size wr w2 → ∀ f : Nat, B ≤ (w2.alloc (.cells #[.float .f64 f] 27)).heap.size) := fun w2 h2 f => by
                have := h2.size
                have := HB2.out
                show B ≤ (w2.heap.push _).size
                rw [Array.size_push]; omega
              have K6 : Hid (∀ (w2 : World) (f : Nat) (i : Nat) (u : Value), [flv f][i]? = some u → (w2.alloc (.cells #[.float .f64 f] 27)).cell? ((⟨w2.heap.size, 0, none⟩ : Addr).add i) = some u) := fun w2 f i u h => cell_one_new w2 _ _ i u h
              have K7 : Hid (∀ w2, Below wr.heap.size wr w2 → ∀ f : Nat, (w2.alloc (.cells #[.float .f64 f] 27)).ownsRow B 27 1 u7 j (acc.map flv)) := fun w2 h2 f => (own_below HA2.out h2).alloc _
              go_wp2_with first | (go_at_call 5; refine (C5.out _).mono ?_; rintro e w' ⟨rfl, rfl⟩) | (go_at_call 6; refine C6.out.mono ?_; rintro e w2 ⟨f, v, ok, rfl, h6⟩) | (at_builtin; refine wpList_append_own _ rfl _ _ 25 rfl B 27 i0 (.float .f64 0) 1 8 Tryz.underlying25 hi hz0 hz1 hz2 rfl (by decide) _ _ _ rfl (K7.out _ h6.out.1 f) ⟨_, 0, none⟩ 1 1 [flv f] rfl rfl (K6.out _ f) (one_one _ rfl) K3.out K4.out (K5.out _ h6.out.1 f) ?_; intro v' w3 hown1 hgrow1 _; have HO1 := Lib.hid hown1; clear hown1; have HG1 := Lib.hid hgrow1; clear hgrow1; refine Hid.out ?_)
              refine Lib.hid ?_
              have HS2 : Hid (wr.heap.size ≤ w2.heap.size) := h6.out.1.size
              have HB3 : Hid (Below B w1 w3) := ((hbe.out.trans (h6.out.1.mono HB2.out)).alloc (by have := HB2.out; have := HS2.out; omega) _).grown HG1.out (by have := HB2.out; have := HS2.out; simp; omega) (fun g hg => ((K7.out _ h6.out.1 f).lt g hg).1)
              have HT : Hid (∀ r, Texts B r v w2 → Texts B r v w3) := fun r hr => hr.below ((Below.refl B w2).alloc (by have := HB2.out; have := HS2.out; omega) _ |>.grown HG1.out (by have := HB2.out; have := HS2.out; simp; omega) (fun g hg => ((K7.out _ h6.out.1 f).lt g hg).1)) (Nat.le_refl _)
              have g1 : Hid (ok = false → pNums n ts = none) := fun hf => by
                rcases h6.out.2 with ⟨h, _⟩ | ⟨r, _, h, _⟩
                · rw [HP.out, show n - j = (n - j - 1) + 1 by omega, pNums_none h]; rfl
                · rw [hf] at h; cases h
              have g2 : Hid (∃ acc' : List Nat, acc'.length = j + 1 ∧ w3.ownsRow B 27 1 v' (j + 1) (acc'.map flv) ∧ (ok = true → ∃ tk', pNums n ts = (pNums (n - (j + 1)) tk').map (fun p => (acc' ++ p.1, p.2)) ∧ (∀ t ∈ tk', HeadOK t) ∧ tk'.length ≤ 2000 ∧ Texts B tk' v w3)) := by
                refine ⟨acc ++ [f], by rw [List.length_append, HAL.out]; rfl, by rw [List.map_append]; exact HO1.out, fun ht => ?_⟩
                rcases h6.out.2 with ⟨_, h⟩ | ⟨r, h, _, htx⟩
                · rw [ht] at h; cases h
                · refine ⟨r, ?_, fun t ht => HP2.out t (pNum_len h t ht), Nat.le_trans (pNum_le h) HP3.out, HT.out r htx⟩
                  rw [HP.out, show n - j = (n - (j + 1)) + 1 by omega, pNums_some h]
                  cases pNums (n - (j + 1)) r <;> simp
              clear HG1
              go_wp2_with fail
              go_roundw
              case rel => exact ⟨j + 1, ok, by omega, by go_num, rfl, HB3.out, g1, g2⟩
              case measure => simp [intOf]; omega
            · have H7 := place7 s k hk3 ts wr.heap.size wr HT3.out HT1.out HT2.out (hV2.mono hB2 (Nat.le_refl _)) (Nat.le_refl _)
              have HSZ : Hid (w.heap.size ≤ wr.heap.size) := Nat.le_trans H1.out.size hbe.out.size
              have HBW : Hid (Below w.heap.size w wr) := H1.out.trans (hbe.out.mono (by rw [HB.out]; exact H1.out.size))
              rw [← HN.out] at H7
              cases fine with
              | false =>
                have hnone := hno.out rfl
                have C7 : Hid (Calls Tryz.prog 7 #[.string s, .int .i64 k] wr fun e w' => ∃ v, e = .returned (.tuple #[v, .bool false]) ∧ Hid (Below wr.heap.size wr w')) := by
                  refine H7.mono ?_
                  rintro e w' ⟨v, ok, rfl, h7⟩
                  refine ⟨v, ?_, h7.out.1⟩
                  rw [h7.out.2.1, hnone]
                  rfl
                clear H7 hnone ha1 ha2 ha3 hV2 hB2 hacc hno
                by_cases hlt : (j : Int) < (n : Int)
                · go_wp2_with first | (go_at_call 5; refine (C5.out _).mono ?_; rintro e w' ⟨rfl, rfl⟩) | (go_at_call 7; refine C7.out.mono ?_; rintro e w2 ⟨v, rfl, h7⟩)
                  go_ret
                  exact ⟨rfl, HBW.out.trans (h7.out.mono HSZ.out)⟩
                · go_wp2_with first | (go_at_call 5; refine (C5.out _).mono ?_; rintro e w' ⟨rfl, rfl⟩) | (go_at_call 7; refine C7.out.mono ?_; rintro e w2 ⟨v, rfl, h7⟩)
                  go_ret
                  exact ⟨rfl, HBW.out.trans (h7.out.mono HSZ.out)⟩
              | true =>
                have hjn : j = n := by
                  refine Nat.le_antisymm hj (Nat.not_lt.1 fun h => hgo ⟨h, rfl⟩)
                obtain ⟨tk, p1, _⟩ := ha3 rfl
                have hsome : pNums n ts = some (acc, tk) := by
                  rw [p1, hjn, Nat.sub_self]
                  simp [pNums]
                have hal : 0 < acc.length := by omega
                have ha2' : wr.ownsRow B 27 1 u7 acc.length (acc.map flv) := by rw [ha1]; exact ha2
                have C7 : Hid (Calls Tryz.prog 7 #[.string s, .int .i64 k] wr fun e w' => ∃ v, e = .returned (.tuple #[v, .bool true]) ∧ Hid (Below wr.heap.size wr w' ∧ Nums acc v w' ∧ Nums acc u7 w')) := by
                  refine H7.mono ?_
                  rintro e w' ⟨v, ok, rfl, h7⟩
                  refine ⟨v, ?_, h7.out.1, nums_of (h7.out.2.2 acc tk hsome) hal, nums_of (own_below ha2' h7.out.1) hal⟩
                  rw [h7.out.2.1, hsome]
                  rfl
                have C8 : Hid (∀ v w2, Hid (Below wr.heap.size wr w2 ∧ Nums acc v w2 ∧ Nums acc u7 w2) → Calls Tryz.prog 8 #[v, u7] w2 fun e w' => e = .returned (.bool true) ∧ ∃ m, w' = w2.drewN m) := fun v w2 h => same8 acc v u7 w2 h.out.2.1 h.out.2.2 (by omega)
                have hlt : ¬ (j : Int) < (n : Int) := by omega
                clear H7 ha1 ha2 ha2' ha3 hV2 hB2 hacc hno hsome p1 hal hgo
                go_wp2_with first | (go_at_call 5; refine (C5.out _).mono ?_; rintro e w' ⟨rfl, rfl⟩) | (go_at_call 7; refine C7.out.mono ?_; rintro e w2 ⟨v, rfl, h7⟩) | (go_at_call 8; refine (C8.out _ _ h7).mono ?_; rintro e w3 ⟨rfl, m, rfl⟩)
                go_ret
                exact ⟨rfl, below_drewN (HBW.out.trans (h7.out.1.mono HSZ.out)) _⟩

end Go.Proofs.YtfmkfnochjeleaaGreatDoor
