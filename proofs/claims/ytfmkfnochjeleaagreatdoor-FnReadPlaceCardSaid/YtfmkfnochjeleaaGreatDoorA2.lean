import Derived.Test.YtfmkfnochjeleaaGreatDoorA1
namespace Go.Proofs.YtfmkfnochjeleaaGreatDoor
open Go.RowKit

/-- is a byte a letter -/
def isLet (c : UInt8) : Bool := decide ((97 ≤ nb c ∧ nb c ≤ 122) ∨ (65 ≤ nb c ∧ nb c ≤ 90))
def lets : List UInt8 → Nat
  | [] => 0
  | c :: l => if isLet c then lets l + 1 else 0
theorem lets_le : ∀ l, lets l ≤ l.length
  | [] => Nat.le_refl _
  | c :: l => by have := lets_le l; simp only [lets, List.length_cons]; split <;> omega

theorem ret_b {a b : Bool} (h : a = b) : Ending.returned (.bool a) = .returned (.bool b) := by rw [h]
theorem isLet_true {c : UInt8} (h : isLet c = true) : (97 ≤ nb c ∧ nb c ≤ 122) ∨ (65 ≤ nb c ∧ nb c ≤ 90) := of_decide_eq_true h
theorem isLet_false {c : UInt8} (h : isLet c = false) : ¬ ((97 ≤ nb c ∧ nb c ≤ 122) ∨ (65 ≤ nb c ∧ nb c ≤ 90)) := of_decide_eq_false h

set_option maxHeartbeats 400000 in
theorem isLetter_any (c : UInt8) (w : World) :
    Calls Tryz.prog 21 #[.int .u8 (nb c)] w fun e w' => e = .returned (.bool (isLet c)) ∧ w = w' := by
  go_enter Tryz.func21, Tryz.ntmps21
  go_wp2
  all_goals
    go_ret
    refine ⟨ret_b ?_, rfl⟩
    unfold isLet
    rw [Bool.eq_iff_iff]
    simp only [decide_eq_true_eq, Bool.false_eq_true, false_iff, true_iff]
    first | omega | (simp; omega)

/-- a token: its kind and its bytes -/
abbrev Tok := UInt8 × List UInt8
def isWs (c : UInt8) : Bool := nb c == 32 || (nb c == 9 || (nb c == 10 || nb c == 13))
def isSign (c : UInt8) : Bool := nb c == 40 || (nb c == 41 || (nb c == 44 || nb c == 45))
/-- the tokens of a text, or none -/
def tks : Nat → List UInt8 → Bool → Option (List Tok)
  | _, [], _ => some []
  | 0, _ :: _, _ => none
  | f + 1, c :: r, j =>
    if isWs c then tks f r false
    else if isSign c then
      if nb c == 45 && j then none else (tks f r false).map fun ts => (c, [c]) :: ts
    else if isLet c then
      if j then none else (tks f ((c :: r).drop (lets (c :: r))) true).map fun ts => (97, (c :: r).take (lets (c :: r))) :: ts
    else if deci (c :: r) = 0 ∨ j = true then none
    else (tks f ((c :: r).drop (deci (c :: r))) true).map fun ts => (49, (c :: r).take (deci (c :: r))) :: ts

def tokCell (t : Tok) : List Value := [.int .u8 (nb t.1), .string ⟨t.2.toArray⟩]
def tokCells (ts : List Tok) : List Value := ts.flatMap tokCell
theorem tokCells_snoc (ts : List Tok) (t : Tok) : tokCells (ts ++ [t]) = tokCells ts ++ [.int .u8 (nb t.1), .string ⟨t.2.toArray⟩] := by
  simp [tokCells, tokCell]
theorem info50 : (Tryz.prog.info? 50).map (fun i => (i.zero, i.size, i.bytes)) = some (some (.agg #[.int .u8 0, .string ⟨#[]⟩]), 2, 24) := by kernel_rfl
theorem extract_str (s : ByteArray) (a b : Nat) : s.extract a b = ⟨((s.data.toList.drop a).take (b - a)).toArray⟩ := by
  rw [← Lib.extract_data]

/-- what the loop holds -/
def TkRel (s : ByteArray) (w : World) (v jv iv : Value) (wr : World) : Prop :=
  ∃ (k f : Nat) (j : Bool) (acc : List Tok), k ≤ s.size ∧ s.size - k ≤ f ∧ acc.length ≤ k ∧ jv = .bool j ∧ iv = .int .i64 k ∧
    wr.ownsRow w.heap.size 50 2 v acc.length (tokCells acc) ∧ Below w.heap.size w wr ∧
    tks s.size s.data.toList false = (tks f (s.data.toList.drop k) j).map (fun ts => acc ++ ts)

def TkPost (s : ByteArray) (w : World) (e : Ending) (w' : World) : Prop :=
  Below w.heap.size w w' ∧
  match tks s.size s.data.toList false with
  | none => e = .returned (.tuple #[.slice none 0 0, .bool false])
  | some ts => ∃ v, e = .returned (.tuple #[v, .bool true]) ∧ w'.ownsRow w.heap.size 50 2 v ts.length (tokCells ts)

theorem size_extract_to (s : ByteArray) (k : Nat) : (s.extract k s.size).size = s.size - k := by simp


theorem tks_ws {f : Nat} {c r} {j : Bool} (h : isWs c = true) : tks (f + 1) (c :: r) j = tks f r false := by simp only [tks, h, if_true]
theorem tks_sign_bad {f : Nat} {c r} {j : Bool} (h : isWs c = false) (h2 : isSign c = true) (h3 : (nb c == 45 && j) = true) : tks (f + 1) (c :: r) j = none := by
  simp only [tks, h, h2, h3, if_true, Bool.false_eq_true, if_false]
theorem tks_sign {f : Nat} {c r} {j : Bool} (h : isWs c = false) (h2 : isSign c = true) (h3 : (nb c == 45 && j) = false) : tks (f + 1) (c :: r) j = (tks f r false).map fun ts => (c, [c]) :: ts := by
  simp only [tks, h, h2, h3, if_true, Bool.false_eq_true, if_false]
theorem tks_let_bad {f : Nat} {c r} (h : isWs c = false) (h2 : isSign c = false) (h3 : isLet c = true) : tks (f + 1) (c :: r) true = none := by
  simp only [tks, h, h2, h3, if_true, Bool.false_eq_true, if_false]
theorem tks_let {f : Nat} {c r} (h : isWs c = false) (h2 : isSign c = false) (h3 : isLet c = true) :
    tks (f + 1) (c :: r) false = (tks f ((c :: r).drop (lets (c :: r))) true).map fun ts => (97, (c :: r).take (lets (c :: r))) :: ts := by
  simp only [tks, h, h2, h3, if_true, Bool.false_eq_true, if_false]
theorem tks_num_bad {f : Nat} {c r} {j : Bool} (h : isWs c = false) (h2 : isSign c = false) (h3 : isLet c = false) (h4 : deci (c :: r) = 0 ∨ j = true) : tks (f + 1) (c :: r) j = none := by
  simp only [tks, h, h2, h3, if_pos h4, Bool.false_eq_true, if_false]
theorem tks_num {f : Nat} {c r} {j : Bool} (h : isWs c = false) (h2 : isSign c = false) (h3 : isLet c = false) (h4 : ¬ (deci (c :: r) = 0 ∨ j = true)) :
    tks (f + 1) (c :: r) j = (tks f ((c :: r).drop (deci (c :: r))) true).map fun ts => (49, (c :: r).take (deci (c :: r))) :: ts := by
  simp only [tks, h, h2, h3, if_neg h4, Bool.false_eq_true, if_false]

/-- one token more -/
theorem map_snoc {o : Option (List Tok)} {acc : List Tok} {t : Tok} : (o.map fun ts => t :: ts).map (fun ts => acc ++ ts) = o.map fun ts => (acc ++ [t]) ++ ts := by
  cases o <;> simp
theorem tkPost_none {s : ByteArray} {w w' : World} {e : Ending} (hb : Below w.heap.size w w') (h : tks s.size s.data.toList false = none) (he : e = .returned (.tuple #[.slice none 0 0, .bool false])) : TkPost s w e w' := by
  unfold TkPost; rw [h]; exact ⟨hb, he⟩
theorem tkPost_some {s : ByteArray} {w w' : World} {e : Ending} {ts : List Tok} {v : Value} (hb : Below w.heap.size w w') (h : tks s.size s.data.toList false = some ts) (he : e = .returned (.tuple #[v, .bool true]))
    (ho : w'.ownsRow w.heap.size 50 2 v ts.length (tokCells ts)) : TkPost s w e w' := by
  unfold TkPost; rw [h]; exact ⟨hb, v, he, ho⟩
/-- the relation behind an append -/
theorem TkRel.snoc {s : ByteArray} {w w1 : World} {v : Value} {acc : List Tok} {k' f' : Nat} {j : Bool} {t : Tok} {n : Int} (hn : n = (k' : Int)) (hk' : k' ≤ s.size) (hf' : s.size - k' ≤ f') (hac : acc.length + 1 ≤ k')
    (ho : w1.ownsRow w.heap.size 50 2 v (acc.length + 1) (tokCells acc ++ [.int .u8 (nb t.1), .string ⟨t.2.toArray⟩])) (hb : Below w.heap.size w w1)
    (he : tks s.size s.data.toList false = (tks f' (s.data.toList.drop k') j).map (fun ts => (acc ++ [t]) ++ ts)) :
    TkRel s w v (.bool j) (.int .i64 n) w1 :=
  ⟨k', f', j, acc ++ [t], hk', hf', by simpa using hac, rfl, by rw [hn], by rw [tokCells_snoc]; simpa using ho, hb, he⟩

theorem two_one (a b : Value) (ha : a.oneCell' = true) (hb : b.oneCell' = true) : ∀ u ∈ [a, b], u.oneCell' = true := by
  intro u hu; simp at hu; rcases hu with rfl | rfl <;> assumption
theorem isWs_false {c : UInt8} (h : isWs c = false) : (nb c == 32) = false ∧ (nb c == 9) = false ∧ (nb c == 10) = false ∧ (nb c == 13) = false := by
  unfold isWs at h
  simp only [Bool.or_eq_false_iff] at h
  exact h
theorem isSign_false {c : UInt8} (h : isSign c = false) : (nb c == 40) = false ∧ (nb c == 41) = false ∧ (nb c == 44) = false ∧ (nb c == 45) = false := by
  unfold isSign at h
  simp only [Bool.or_eq_false_iff] at h
  exact h
theorem isSign_true {c : UInt8} (h : isSign c = true) : (nb c == 40) = true ∨ ((nb c == 40) = false ∧ (nb c == 41) = true) ∨ ((nb c == 40) = false ∧ (nb c == 41) = false ∧ (nb c == 44) = true) ∨
    ((nb c == 40) = false ∧ (nb c == 41) = false ∧ (nb c == 44) = false ∧ (nb c == 45) = true) := by
  unfold isSign at h
  cases h1 : (nb c == 40) <;> cases h2 : (nb c == 41) <;> cases h3 : (nb c == 44) <;> cases h4 : (nb c == 45) <;> simp [h1, h2, h3, h4] at h ⊢

theorem mant_le (l : List UInt8) : mant l ≤ l.length := by
  unfold mant
  have h1 := digs_le l
  cases h : l.drop (digs l) with
  | nil => exact h1
  | cons c r =>
    simp only
    have h2 : (l.drop (digs l)).length = r.length + 1 := by rw [h]; rfl
    rw [List.length_drop] at h2
    have h3 := digs_le r
    split
    · split <;> omega
    · omega
theorem expo_le (l : List UInt8) : expo l ≤ l.length := by
  cases l with
  | nil => exact Nat.le_refl _
  | cons c r =>
    simp only [expo]
    split
    · cases r with
      | nil => simp
      | cons d r' =>
        simp only
        have h1 := digs_le r'
        have h2 := digs_le (d :: r')
        simp only [List.length_cons] at *
        split <;> split <;> omega
    · exact Nat.zero_le _
theorem deci_le (l : List UInt8) : deci l ≤ l.length := by
  unfold deci
  have h1 := mant_le l
  have h2 := expo_le (l.drop (mant l))
  rw [List.length_drop] at h2
  split <;> omega
set_option maxRecDepth 100000 in
set_option maxHeartbeats 16000000 in
theorem tokens_any (s : ByteArray) (w : World) (hs : s.size ≤ 2000) :
    Calls Tryz.prog 15 #[.string s] w (TkPost s w) := by
  obtain ⟨i0, hi, hz0, hz1, hz2⟩ := info_parts info50
  go_enter Tryz.func15, Tryz.ntmps15
  go_wp2
  go_loopw [2, 4, 5] (fun v jv iv wr => TkRel s w v jv iv wr) (fun _ _ iv _ => s.size - (intOf iv).toNat)
  case atStart => exact ⟨0, s.size, false, [], by omega, by omega, by simp, rfl, rfl, World.ownsRow_nil _ _ _ _, Below.refl _ _, by simp⟩
  case round =>
    obtain ⟨k, f, j, acc, hk, hf, ha, rfl, rfl, hown, hb, heq⟩ := hrel
    have HE := Lib.hid heq
    have HO := Lib.hid hown
    have HB := Lib.hid hb
    have K3 : Hid (acc.length + 1 ≤ maxLen) := by show _ ≤ _; unfold maxLen; omega
    have K4 : Hid ((acc.length + 1) * 24 ≤ 140737488355328) := by show _ ≤ _; omega
    have K5 : Hid (∀ o, w.heap.size ≤ (wr.alloc o).heap.size) := fun o => by have := hb.size; simp; omega
    clear heq hown hb
    by_cases hlt : k < s.size
    · obtain ⟨f, rfl⟩ : ∃ g, f = g + 1 := ⟨f - 1, by omega⟩
      have HC := Lib.hid (drop_cons_of hlt)
      cases hws : isWs s[k] with
      | true =>
        -- a blank
        have HN : Hid (tks s.size s.data.toList false = (tks f (s.data.toList.drop (k + 1)) false).map (fun ts => acc ++ ts)) := by
          show _ = _
          rw [HE.out, HC.out, tks_ws hws]
        obtain ⟨b1, e1⟩ : ∃ b, (nb s[k] == 32) = b := ⟨_, rfl⟩
        obtain ⟨b2, e2⟩ : ∃ b, (nb s[k] == 9) = b := ⟨_, rfl⟩
        obtain ⟨b3, e3⟩ : ∃ b, (nb s[k] == 10) = b := ⟨_, rfl⟩
        obtain ⟨b4, e4⟩ : ∃ b, (nb s[k] == 13) = b := ⟨_, rfl⟩
        unfold isWs at hws
        rw [e1, e2, e3, e4] at hws
        have hm : 1 ≤ s.size - k := by omega
        rcases b1 with _ | _
        · rcases b2 with _ | _
          · rcases b3 with _ | _
            · rcases b4 with _ | _
              · simp at hws
              · clear hws
                go_wp2
                go_roundw
                case rel => exact ⟨k + 1, f, false, acc, by omega, by omega, by omega, rfl, by go_num, HO.out, HB.out, HN.out⟩
                case measure => simp [intOf]; omega
            · clear hws
              go_wp2
              go_roundw
              case rel => exact ⟨k + 1, f, false, acc, by omega, by omega, by omega, rfl, by go_num, HO.out, HB.out, HN.out⟩
              case measure => simp [intOf]; omega
          · clear hws
            go_wp2
            go_roundw
            case rel => exact ⟨k + 1, f, false, acc, by omega, by omega, by omega, rfl, by go_num, HO.out, HB.out, HN.out⟩
            case measure => simp [intOf]; omega
        · clear hws
          go_wp2
          go_roundw
          case rel => exact ⟨k + 1, f, false, acc, by omega, by omega, by omega, rfl, by go_num, HO.out, HB.out, HN.out⟩
          case measure => simp [intOf]; omega
      | false =>
        obtain ⟨w1, w2, w3, w4⟩ := isWs_false hws
        cases hsg : isSign s[k] with
        | true =>
          rcases isSign_true hsg with g1 | ⟨g1, g2⟩ | ⟨g1, g2, g3⟩ | ⟨g1, g2, g3, g4⟩
          · have g4 : (nb s[k] == 45) = false := by simp at g1 ⊢; omega
            have HN : Hid (tks s.size s.data.toList false = (tks f (s.data.toList.drop (k + 1)) false).map (fun ts => (acc ++ [(s[k], [s[k]])]) ++ ts)) := by
              show _ = _
              rw [HE.out, HC.out, tks_sign hws hsg (by rw [g4]; rfl), map_snoc]
            clear hws hsg
            go_wp2_with (at_builtin; refine wpList_append_own _ rfl _ _ 46 rfl w.heap.size 50 i0 (.agg #[.int .u8 0, .string ⟨#[]⟩]) 2 24 Tryz.underlying46 hi hz0 hz1 hz2 rfl (by decide) _ _ _ rfl (HO.out.alloc _) ⟨wr.heap.size, 0, none⟩ 1 1 [.int .u8 (nb s[k]), .string (s.extract k (k + 1))] rfl rfl (cell_two_new _ _ _ _) (two_one _ _ rfl rfl) K3.out K4.out (K5.out _) ?_; intro v' w1 hown1 hgrow1 _; have HO1 := Lib.hid hown1; clear hown1; have HG1 := Lib.hid hgrow1; clear hgrow1; refine Hid.out ?_)
            refine Lib.hid ?_
            have HB1 := Lib.hid ((HB.out.alloc HB.out.size _).grown HG1.out (by have := HB.out.size; simp; omega) (fun g hg => (HO.out.lt g hg).1))
            clear HG1
            go_wp2
            go_roundw
            case rel =>
              refine TkRel.snoc (k' := k + 1) (f' := f) (t := (s[k], [s[k]])) (by omega) (by omega) (by omega) (by omega) ?_ HB1.out HN.out
              have := HO1.out
              rw [extract_str, HC.out] at this
              simpa using this
            case measure => simp [intOf]; omega
          · have g4 : (nb s[k] == 45) = false := by simp at g2 ⊢; omega
            have HN : Hid (tks s.size s.data.toList false = (tks f (s.data.toList.drop (k + 1)) false).map (fun ts => (acc ++ [(s[k], [s[k]])]) ++ ts)) := by
              show _ = _
              rw [HE.out, HC.out, tks_sign hws hsg (by rw [g4]; rfl), map_snoc]
            clear hws hsg
            go_wp2_with (at_builtin; refine wpList_append_own _ rfl _ _ 46 rfl w.heap.size 50 i0 (.agg #[.int .u8 0, .string ⟨#[]⟩]) 2 24 Tryz.underlying46 hi hz0 hz1 hz2 rfl (by decide) _ _ _ rfl (HO.out.alloc _) ⟨wr.heap.size, 0, none⟩ 1 1 [.int .u8 (nb s[k]), .string (s.extract k (k + 1))] rfl rfl (cell_two_new _ _ _ _) (two_one _ _ rfl rfl) K3.out K4.out (K5.out _) ?_; intro v' w1 hown1 hgrow1 _; have HO1 := Lib.hid hown1; clear hown1; have HG1 := Lib.hid hgrow1; clear hgrow1; refine Hid.out ?_)
            refine Lib.hid ?_
            have HB1 := Lib.hid ((HB.out.alloc HB.out.size _).grown HG1.out (by have := HB.out.size; simp; omega) (fun g hg => (HO.out.lt g hg).1))
            clear HG1
            go_wp2
            go_roundw
            case rel =>
              refine TkRel.snoc (k' := k + 1) (f' := f) (t := (s[k], [s[k]])) (by omega) (by omega) (by omega) (by omega) ?_ HB1.out HN.out
              have := HO1.out
              rw [extract_str, HC.out] at this
              simpa using this
            case measure => simp [intOf]; omega
          · have g4 : (nb s[k] == 45) = false := by simp at g3 ⊢; omega
            have HN : Hid (tks s.size s.data.toList false = (tks f (s.data.toList.drop (k + 1)) false).map (fun ts => (acc ++ [(s[k], [s[k]])]) ++ ts)) := by
              show _ = _
              rw [HE.out, HC.out, tks_sign hws hsg (by rw [g4]; rfl), map_snoc]
            clear hws hsg
            go_wp2_with (at_builtin; refine wpList_append_own _ rfl _ _ 46 rfl w.heap.size 50 i0 (.agg #[.int .u8 0, .string ⟨#[]⟩]) 2 24 Tryz.underlying46 hi hz0 hz1 hz2 rfl (by decide) _ _ _ rfl (HO.out.alloc _) ⟨wr.heap.size, 0, none⟩ 1 1 [.int .u8 (nb s[k]), .string (s.extract k (k + 1))] rfl rfl (cell_two_new _ _ _ _) (two_one _ _ rfl rfl) K3.out K4.out (K5.out _) ?_; intro v' w1 hown1 hgrow1 _; have HO1 := Lib.hid hown1; clear hown1; have HG1 := Lib.hid hgrow1; clear hgrow1; refine Hid.out ?_)
            refine Lib.hid ?_
            have HB1 := Lib.hid ((HB.out.alloc HB.out.size _).grown HG1.out (by have := HB.out.size; simp; omega) (fun g hg => (HO.out.lt g hg).1))
            clear HG1
            go_wp2
            go_roundw
            case rel =>
              refine TkRel.snoc (k' := k + 1) (f' := f) (t := (s[k], [s[k]])) (by omega) (by omega) (by omega) (by omega) ?_ HB1.out HN.out
              have := HO1.out
              rw [extract_str, HC.out] at this
              simpa using this
            case measure => simp [intOf]; omega
          · cases j with
            | false =>
              have HN : Hid (tks s.size s.data.toList false = (tks f (s.data.toList.drop (k + 1)) false).map (fun ts => (acc ++ [(s[k], [s[k]])]) ++ ts)) := by
                show _ = _
                rw [HE.out, HC.out, tks_sign hws hsg (by rw [g4]; rfl), map_snoc]
              clear hws hsg
              go_wp2_with (at_builtin; refine wpList_append_own _ rfl _ _ 46 rfl w.heap.size 50 i0 (.agg #[.int .u8 0, .string ⟨#[]⟩]) 2 24 Tryz.underlying46 hi hz0 hz1 hz2 rfl (by decide) _ _ _ rfl (HO.out.alloc _) ⟨wr.heap.size, 0, none⟩ 1 1 [.int .u8 (nb s[k]), .string (s.extract k (k + 1))] rfl rfl (cell_two_new _ _ _ _) (two_one _ _ rfl rfl) K3.out K4.out (K5.out _) ?_; intro v' w1 hown1 hgrow1 _; have HO1 := Lib.hid hown1; clear hown1; have HG1 := Lib.hid hgrow1; clear hgrow1; refine Hid.out ?_)
              refine Lib.hid ?_
              have HB1 := Lib.hid ((HB.out.alloc HB.out.size _).grown HG1.out (by have := HB.out.size; simp; omega) (fun g hg => (HO.out.lt g hg).1))
              clear HG1
              go_wp2
              go_roundw
              case rel =>
                refine TkRel.snoc (k' := k + 1) (f' := f) (t := (s[k], [s[k]])) (by omega) (by omega) (by omega) (by omega) ?_ HB1.out HN.out
                have := HO1.out
                rw [extract_str, HC.out] at this
                simpa using this
              case measure => simp [intOf]; omega
            | true =>
              have HN : Hid (tks s.size s.data.toList false = none) := by
                show _ = _
                rw [HE.out, HC.out, tks_sign_bad hws hsg (by rw [g4]; rfl)]; rfl
              clear hws hsg
              go_wp2
              go_ret2
              exact tkPost_none HB.out HN.out rfl
        | false =>
          obtain ⟨g1, g2, g3, g4⟩ := isSign_false hsg
          cases hlt2 : isLet s[k] with
          | true =>
            obtain ⟨wo, rfl⟩ : ∃ wo : World, wo = wr := ⟨_, rfl⟩
            obtain ⟨L, hL0⟩ : ∃ L, L = lets (s.data.toList.drop k) := ⟨_, rfl⟩
            have hL1 : L ≤ s.size - k := by rw [hL0]; refine Nat.le_trans (lets_le _) ?_; simp
            have hLp : 1 ≤ L := by rw [hL0, HC.out]; simp only [lets, hlt2, if_true]; omega
            have HW := Lib.hid hws
            have HSG := Lib.hid hsg
            have HL := Lib.hid hL0
            have HLT := Lib.hid hlt2
            clear hws hsg hL0
            go_wp2_with (go_at_call 21; refine (isLetter_any _ _).mono ?_; rintro e w' ⟨rfl, rfl⟩)
            clear hlt2
            go_loop [7] (fun nv => ∃ n : Nat, n ≤ L ∧ nv = .int .i64 n ∧ Hid (lets (s.data.toList.drop k) = n + lets (s.data.toList.drop (k + n)))) (fun nv => s.size - (intOf nv).toNat)
            case atStart => exact ⟨0, by omega, rfl, by simp [Hid]⟩
            case round =>
              obtain ⟨n, hn, rfl, hln⟩ := hrel
              by_cases hkn : k + n < s.size
              · have HC2 := Lib.hid (drop_cons_of hkn)
                cases hb2 : isLet s[k + n] with
                | true =>
                  go_wp2_with (go_at_call 21; refine (isLetter_any _ _).mono ?_; rintro e w' ⟨rfl, rfl⟩)
                  go_round
                  case rel =>
                    have := hln.out
                    rw [HC2.out] at this
                    simp only [lets, hb2, if_true] at this
                    refine ⟨n + 1, ?_, by go_num, ?_⟩
                    · have h2 := HL.out; omega
                    · show _ = _
                      rw [this, show k + (n + 1) = k + n + 1 by omega]; omega
                  case measure => simp [intOf]; omega
                | false =>
                  have hnL : n = L := by
                    have := hln.out
                    rw [HC2.out] at this
                    simp only [lets, hb2, Bool.false_eq_true, if_false] at this
                    have h2 := HL.out
                    omega
                  have HNL := Lib.hid hnL
                  clear hnL
                  have hn0 : ((n : Int) == 0) = false := by simp; have := HNL.out; omega
                  cases j with
                  | true =>
                    have HN : Hid (tks s.size s.data.toList false = none) := by
                      show _ = _
                      rw [HE.out, HC.out, tks_let_bad HW.out HSG.out HLT.out]; rfl
                    go_wp2_with first | (go_at_call 21; refine (isLetter_any _ _).mono ?_; rintro e w' ⟨rfl, rfl⟩) | (at_builtin; refine wpList_append_own _ rfl _ _ 46 rfl w.heap.size 50 i0 (.agg #[.int .u8 0, .string ⟨#[]⟩]) 2 24 Tryz.underlying46 hi hz0 hz1 hz2 rfl (by decide) _ _ _ rfl (HO.out.alloc _) ⟨wo.heap.size, 0, none⟩ 1 1 [.int .u8 (97), .string (s.extract k (k + n))] rfl rfl (cell_two_new _ _ _ _) (two_one _ _ rfl rfl) K3.out K4.out (K5.out _) ?_; intro v' w1 hown1 hgrow1 _; have HO1 := Lib.hid hown1; clear hown1; have HG1 := Lib.hid hgrow1; clear hgrow1; refine Hid.out ?_)
                    refine Lib.hid ?_
                    have HB1 := Lib.hid ((HB.out.alloc HB.out.size _).grown HG1.out (by have := HB.out.size; simp; omega) (fun g hg => (HO.out.lt g hg).1))
                    clear HG1
                    go_wp2
                    go_ret2
                    exact tkPost_none HB1.out HN.out rfl
                  | false =>
                    have HN : Hid (tks s.size s.data.toList false = (tks f (s.data.toList.drop (k + n)) true).map (fun ts => (acc ++ [(97, s.data.toList.drop k |>.take n)]) ++ ts)) := by
                      show _ = _
                      rw [HE.out, HC.out, tks_let HW.out HSG.out HLT.out, map_snoc, ← HC.out, ← HL.out, ← HNL.out, List.drop_drop]
                    have hn1 : 1 ≤ n := by have := HNL.out; omega
                    go_wp2_with first | (go_at_call 21; refine (isLetter_any _ _).mono ?_; rintro e w' ⟨rfl, rfl⟩) | (at_builtin; refine wpList_append_own _ rfl _ _ 46 rfl w.heap.size 50 i0 (.agg #[.int .u8 0, .string ⟨#[]⟩]) 2 24 Tryz.underlying46 hi hz0 hz1 hz2 rfl (by decide) _ _ _ rfl (HO.out.alloc _) ⟨wo.heap.size, 0, none⟩ 1 1 [.int .u8 (97), .string (s.extract k (k + n))] rfl rfl (cell_two_new _ _ _ _) (two_one _ _ rfl rfl) K3.out K4.out (K5.out _) ?_; intro v' w1 hown1 hgrow1 _; have HO1 := Lib.hid hown1; clear hown1; have HG1 := Lib.hid hgrow1; clear hgrow1; refine Hid.out ?_)
                    refine Lib.hid ?_
                    have HB1 := Lib.hid ((HB.out.alloc HB.out.size _).grown HG1.out (by have := HB.out.size; simp; omega) (fun g hg => (HO.out.lt g hg).1))
                    clear HG1
                    go_wp2
                    go_roundw
                    case rel =>
                      refine TkRel.snoc (k' := k + n) (f' := f) (t := (97, s.data.toList.drop k |>.take n)) (by omega) (by omega) (by omega) (by omega) ?_ HB1.out HN.out
                      have := HO1.out
                      rw [extract_str, show k + n - k = n by omega] at this
                      exact this
                    case measure => simp [intOf]; omega
              · have hnL : n = L := by
                  have := hln.out
                  rw [drop_all (k := k + n) (by omega)] at this
                  simp only [lets] at this
                  have h2 := HL.out
                  omega
                have HNL := Lib.hid hnL
                clear hnL
                have hn0 : ((n : Int) == 0) = false := by simp; have := HNL.out; omega
                cases j with
                | true =>
                  have HN : Hid (tks s.size s.data.toList false = none) := by
                    show _ = _
                    rw [HE.out, HC.out, tks_let_bad HW.out HSG.out HLT.out]; rfl
                  go_wp2_with first | (go_at_call 21; refine (isLetter_any _ _).mono ?_; rintro e w' ⟨rfl, rfl⟩) | (at_builtin; refine wpList_append_own _ rfl _ _ 46 rfl w.heap.size 50 i0 (.agg #[.int .u8 0, .string ⟨#[]⟩]) 2 24 Tryz.underlying46 hi hz0 hz1 hz2 rfl (by decide) _ _ _ rfl (HO.out.alloc _) ⟨wo.heap.size, 0, none⟩ 1 1 [.int .u8 (97), .string (s.extract k (k + n))] rfl rfl (cell_two_new _ _ _ _) (two_one _ _ rfl rfl) K3.out K4.out (K5.out _) ?_; intro v' w1 hown1 hgrow1 _; have HO1 := Lib.hid hown1; clear hown1; have HG1 := Lib.hid hgrow1; clear hgrow1; refine Hid.out ?_)
                  refine Lib.hid ?_
                  have HB1 := Lib.hid ((HB.out.alloc HB.out.size _).grown HG1.out (by have := HB.out.size; simp; omega) (fun g hg => (HO.out.lt g hg).1))
                  clear HG1
                  go_wp2
                  go_ret2
                  exact tkPost_none HB1.out HN.out rfl
                | false =>
                  have HN : Hid (tks s.size s.data.toList false = (tks f (s.data.toList.drop (k + n)) true).map (fun ts => (acc ++ [(97, s.data.toList.drop k |>.take n)]) ++ ts)) := by
                    show _ = _
                    rw [HE.out, HC.out, tks_let HW.out HSG.out HLT.out, map_snoc, ← HC.out, ← HL.out, ← HNL.out, List.drop_drop]
                  have hn1 : 1 ≤ n := by have := HNL.out; omega
                  go_wp2_with first | (go_at_call 21; refine (isLetter_any _ _).mono ?_; rintro e w' ⟨rfl, rfl⟩) | (at_builtin; refine wpList_append_own _ rfl _ _ 46 rfl w.heap.size 50 i0 (.agg #[.int .u8 0, .string ⟨#[]⟩]) 2 24 Tryz.underlying46 hi hz0 hz1 hz2 rfl (by decide) _ _ _ rfl (HO.out.alloc _) ⟨wo.heap.size, 0, none⟩ 1 1 [.int .u8 (97), .string (s.extract k (k + n))] rfl rfl (cell_two_new _ _ _ _) (two_one _ _ rfl rfl) K3.out K4.out (K5.out _) ?_; intro v' w1 hown1 hgrow1 _; have HO1 := Lib.hid hown1; clear hown1; have HG1 := Lib.hid hgrow1; clear hgrow1; refine Hid.out ?_)
                  refine Lib.hid ?_
                  have HB1 := Lib.hid ((HB.out.alloc HB.out.size _).grown HG1.out (by have := HB.out.size; simp; omega) (fun g hg => (HO.out.lt g hg).1))
                  clear HG1
                  go_wp2
                  go_roundw
                  case rel =>
                    refine TkRel.snoc (k' := k + n) (f' := f) (t := (97, s.data.toList.drop k |>.take n)) (by omega) (by omega) (by omega) (by omega) ?_ HB1.out HN.out
                    have := HO1.out
                    rw [extract_str, show k + n - k = n by omega] at this
                    exact this
                  case measure => simp [intOf]; omega
          | false =>
            obtain ⟨D, hD0⟩ : ∃ D, D = deci (s.data.toList.drop k) := ⟨_, rfl⟩
            have hD1 : D ≤ s.size - k := by rw [hD0]; refine Nat.le_trans (deci_le _) ?_; simp
            have cD := decimal_any (s.extract k s.size) wr (by simp; omega)
            rw [Lib.extract_to_end, ← hD0] at cD
            have HCD := Lib.hid cD
            have HD := Lib.hid hD0
            have HW := Lib.hid hws
            have HSG := Lib.hid hsg
            have HLT := Lib.hid hlt2
            clear hws hsg hD0 cD
            by_cases hbad : D = 0 ∨ j = true
            · have HN : Hid (tks s.size s.data.toList false = none) := by
                show _ = _
                rw [HE.out, HC.out, tks_num_bad HW.out HSG.out HLT.out (by rw [← HC.out, ← HD.out]; exact hbad)]; rfl
              have key : ∀ b : Bool, ((D : Int) == 0) = b → (b || j) = true := by
                intro b hb
                rcases hbad with h | h
                · subst h; simp at hb; subst hb; rfl
                · subst h; simp
              have HK := Lib.hid key
              clear key hbad
              cases hd0 : ((D : Int) == 0) with
              | true =>
                go_wp2_with first | (go_at_call 21; refine (isLetter_any _ _).mono ?_; rintro e w' ⟨rfl, rfl⟩) | (go_at_call 22; refine (HCD.out).mono ?_; rintro e w' ⟨rfl, rfl⟩) | (at_builtin; refine wpList_append_own _ rfl _ _ 46 rfl w.heap.size 50 i0 (.agg #[.int .u8 0, .string ⟨#[]⟩]) 2 24 Tryz.underlying46 hi hz0 hz1 hz2 rfl (by decide) _ _ _ rfl (HO.out.alloc _) ⟨wr.heap.size, 0, none⟩ 1 1 [.int .u8 (49), .string (s.extract k (k + D))] rfl rfl (cell_two_new _ _ _ _) (two_one _ _ rfl rfl) K3.out K4.out (K5.out _) ?_; intro v' w1 hown1 hgrow1 _; have HO1 := Lib.hid hown1; clear hown1; have HG1 := Lib.hid hgrow1; clear hgrow1; refine Hid.out ?_)
                refine Lib.hid ?_
                have HB1 := Lib.hid ((HB.out.alloc HB.out.size _).grown HG1.out (by have := HB.out.size; simp; omega) (fun g hg => (HO.out.lt g hg).1))
                clear HG1
                go_wp2
                go_ret2
                exact tkPost_none HB1.out HN.out rfl
              | false =>
                obtain rfl : j = true := by have := HK.out _ hd0; simpa using this
                go_wp2_with first | (go_at_call 21; refine (isLetter_any _ _).mono ?_; rintro e w' ⟨rfl, rfl⟩) | (go_at_call 22; refine (HCD.out).mono ?_; rintro e w' ⟨rfl, rfl⟩) | (at_builtin; refine wpList_append_own _ rfl _ _ 46 rfl w.heap.size 50 i0 (.agg #[.int .u8 0, .string ⟨#[]⟩]) 2 24 Tryz.underlying46 hi hz0 hz1 hz2 rfl (by decide) _ _ _ rfl (HO.out.alloc _) ⟨wr.heap.size, 0, none⟩ 1 1 [.int .u8 (49), .string (s.extract k (k + D))] rfl rfl (cell_two_new _ _ _ _) (two_one _ _ rfl rfl) K3.out K4.out (K5.out _) ?_; intro v' w1 hown1 hgrow1 _; have HO1 := Lib.hid hown1; clear hown1; have HG1 := Lib.hid hgrow1; clear hgrow1; refine Hid.out ?_)
                refine Lib.hid ?_
                have HB1 := Lib.hid ((HB.out.alloc HB.out.size _).grown HG1.out (by have := HB.out.size; simp; omega) (fun g hg => (HO.out.lt g hg).1))
                clear HG1
                go_wp2
                go_ret2
                exact tkPost_none HB1.out HN.out rfl
            · have hd1 : ((D : Int) == 0) = false := by simp; intro h; apply hbad; left; omega
              obtain rfl : j = false := by cases j <;> simp at hbad ⊢
              have hDp : 1 ≤ D := by simp at hd1; omega
              have HN : Hid (tks s.size s.data.toList false = (tks f (s.data.toList.drop (k + D)) true).map (fun ts => (acc ++ [(49, s.data.toList.drop k |>.take D)]) ++ ts)) := by
                show _ = _
                rw [HE.out, HC.out, tks_num HW.out HSG.out HLT.out (by rw [← HC.out, ← HD.out]; exact hbad), map_snoc, ← HC.out, ← HD.out, List.drop_drop]
              clear hbad
              go_wp2_with first | (go_at_call 21; refine (isLetter_any _ _).mono ?_; rintro e w' ⟨rfl, rfl⟩) | (go_at_call 22; refine (HCD.out).mono ?_; rintro e w' ⟨rfl, rfl⟩) | (at_builtin; refine wpList_append_own _ rfl _ _ 46 rfl w.heap.size 50 i0 (.agg #[.int .u8 0, .string ⟨#[]⟩]) 2 24 Tryz.underlying46 hi hz0 hz1 hz2 rfl (by decide) _ _ _ rfl (HO.out.alloc _) ⟨wr.heap.size, 0, none⟩ 1 1 [.int .u8 (49), .string (s.extract k (k + D))] rfl rfl (cell_two_new _ _ _ _) (two_one _ _ rfl rfl) K3.out K4.out (K5.out _) ?_; intro v' w1 hown1 hgrow1 _; have HO1 := Lib.hid hown1; clear hown1; have HG1 := Lib.hid hgrow1; clear hgrow1; refine Hid.out ?_)
              refine Lib.hid ?_
              have HB1 := Lib.hid ((HB.out.alloc HB.out.size _).grown HG1.out (by have := HB.out.size; simp; omega) (fun g hg => (HO.out.lt g hg).1))
              clear HG1
              go_wp2
              go_roundw
              case rel =>
                refine TkRel.snoc (k' := k + D) (f' := f) (t := (49, s.data.toList.drop k |>.take D)) (by omega) (by omega) (by omega) (by omega) ?_ HB1.out HN.out
                have := HO1.out
                rw [extract_str, show k + D - k = D by omega] at this
                exact this
              case measure => simp [intOf]; omega
    · go_wp2
      go_ret2
      refine tkPost_some HB.out ?_ rfl HO.out
      rw [HE.out, drop_all (by omega)]
      cases f <;> simp [tks]
end Go.Proofs.YtfmkfnochjeleaaGreatDoor
