import Derived.Test.YtfmkfnochjeleaaGreatDoorT3
namespace Go.Proofs.YtfmkfnochjeleaaGreatDoor
open Go.RowKit

theorem dgAt_dig {T : ByteArray} : ∀ (n q : Nat), n ≤ dgAt T q → ∀ i, i < n → isDigI (chAt T (q + i)) = true
  | 0, _, _, i, hi => absurd hi (Nat.not_lt_zero i)
  | n + 1, q, h, i, hi => by
    cases hd : isDigI (chAt T q)
    · rw [dgAt_zero hd] at h; omega
    · rw [dgAt_succ hd] at h
      cases i with
      | zero => rw [Nat.add_zero]; exact hd
      | succ i =>
        have := dgAt_dig (T := T) n (q + 1) (by omega) i (by omega)
        rw [show q + (i + 1) = q + 1 + i by omega]; exact this

/-- a byte of a token -/
def TokC (c : Int) : Prop := (40 ≤ c ∧ c ≤ 57) ∨ (65 ≤ c ∧ c ≤ 90) ∨ (97 ≤ c ∧ c ≤ 122)
def PlainC (c : Int) : Prop := TokC c ∨ WsI c
theorem tokC_dig {c : Int} (h : isDigI c = true) : TokC c := by have := isDigI_rng h; unfold TokC; omega

theorem num_cls {T : ByteArray} {q p e : Nat} (hM : MantAt T q p) (hX : ExpAt T p e) : q ≤ p ∧ p ≤ e ∧ q + dgAt T q ≤ p ∧ ∀ j, q ≤ j → j < e → TokC (chAt T j) := by
  have hd : ∀ a n, n ≤ dgAt T a → ∀ j, a ≤ j → j < a + n → TokC (chAt T j) := fun a n hn j h1 h2 => by
    have := dgAt_dig n a hn (j - a) (by omega)
    rw [show a + (j - a) = j by omega] at this
    exact tokC_dig this
  have hm : q ≤ p ∧ q + dgAt T q ≤ p ∧ ∀ j, q ≤ j → j < p → TokC (chAt T j) := by
    rcases hM with ⟨h46, _, hp⟩ | ⟨_, _, hp⟩
    · refine ⟨by omega, by omega, fun j h1 h2 => ?_⟩
      rcases Nat.lt_trichotomy j (q + dgAt T q) with h | h | h
      · exact hd q _ (Nat.le_refl _) j h1 h
      · rw [h, h46]; unfold TokC; omega
      · exact hd (q + dgAt T q + 1) _ (Nat.le_refl _) j (by omega) (by omega)
    · exact ⟨by omega, by omega, fun j h1 h2 => hd q _ (Nat.le_refl _) j h1 (by omega)⟩
  have hx : p ≤ e ∧ ∀ j, p ≤ j → j < e → TokC (chAt T j) := by
    rcases hX with ⟨he, hs⟩ | ⟨_, he⟩
    · have hpe : TokC (chAt T p) := by unfold TokC; omega
      rcases hs with ⟨hs, h0, h1⟩ | ⟨hs, h0, h1⟩
      · refine ⟨by omega, fun j g1 g2 => ?_⟩
        rcases Nat.lt_trichotomy j (p + 1) with h | h | h
        · rw [show j = p by omega]; exact hpe
        · rw [h]; unfold TokC; omega
        · exact hd (p + 1 + 1) _ (Nat.le_refl _) j (by omega) (by omega)
      · refine ⟨by omega, fun j g1 g2 => ?_⟩
        by_cases h : j = p
        · rw [h]; exact hpe
        · exact hd (p + 1) _ (Nat.le_refl _) j (by omega) (by omega)
    · exact ⟨by omega, fun j g1 g2 => by omega⟩
  refine ⟨hm.1, hx.1, hm.2.1, fun j h1 h2 => ?_⟩
  by_cases h : j < p
  · exact hm.2.2 j h1 h
  · exact hx.2 j (by omega) h2

theorem tk_cls {T : ByteArray} {q : Nat} {t : Tok} (h : TkAt T q t) : ∀ i, i < t.2.length → TokC (chAt T (q + i)) := by
  intro i hi
  rcases h with ⟨h1, h2⟩ | ⟨h1, _⟩ | ⟨_, _, p, hM, hX⟩
  · have : i = 0 := by omega
    subst this
    rw [Nat.add_zero]
    unfold TokC; omega
  · have := isLetI_rng (h1 i hi)
    unfold TokC; omega
  · exact (num_cls hM hX).2.2.2 (q + i) (by omega) (by omega)

theorem cls_at {T : ByteArray} : ∀ (ts : List Tok) (q f : Nat) (j : Bool), q ≤ T.size → tks f (T.data.toList.drop q) j = some ts → ∀ i, q ≤ i → i < T.size → PlainC (chAt T i)
  | ts, q, f, j, hq, h, i, h1, h2 => by
    obtain ⟨q1, g1, g2, g3⟩ := lex_step f q j ts hq h
    by_cases hi : i < q1
    · exact .inr (g2 i h1 hi)
    · rcases g3 with ⟨_, g3⟩ | ⟨t, ts', f', j', e1, e2, e3, e4, e5, e6, e7⟩
      · omega
      · by_cases hi2 : i < q1 + t.2.length
        · have := tk_cls e7 (i - q1) (by omega)
          rw [show q1 + (i - q1) = i by omega] at this
          exact .inl this
        · exact cls_at ts' (q1 + t.2.length) f' j' e5 e6 i (by omega) h2
  termination_by ts => ts.length
  decreasing_by subst e1; simp

theorem chAt_get {T : ByteArray} {i : Nat} (h : i < T.data.toList.length) : chAt T i = nb T.data.toList[i] := by
  unfold chAt
  rw [if_pos (by rw [← size_toList]; exact h), List.getD_eq_getElem?_getD, List.getElem?_eq_getElem h]
  rfl
theorem txt_of {T : ByteArray} {f : Nat} {ts : List Tok} (hs : T.size ≤ 2000) (h : tks f T.data.toList false = some ts) : Txt T ∧ ∀ i, chAt T i ≠ 95 := by
  have hc := cls_at (T := T) ts 0 f false (Nat.zero_le _) (by rw [List.drop_zero]; exact h)
  constructor
  · refine ⟨hs, fun c hcm => ?_⟩
    obtain ⟨i, hi, rfl⟩ := List.getElem_of_mem hcm
    have := hc i (Nat.zero_le _) (by rw [← size_toList]; exact hi)
    rw [chAt_get hi] at this
    unfold PlainC TokC WsI nb at this
    omega
  · intro i
    by_cases hi : i < T.size
    · have := hc i (Nat.zero_le _) hi
      unfold PlainC TokC WsI at this
      omega
    · rw [chAt_end T i hi]; decide

/-- a token's text -/
def tokStr (t : Tok) : ByteArray := ⟨t.2.toArray⟩
theorem tokStr_list (t : Tok) : (tokStr t).data.toList = t.2 := rfl
theorem tokStr_size (t : Tok) : (tokStr t).size = t.2.length := by rw [← size_toList]; rfl
theorem cut_tok {T : ByteArray} {q : Nat} {t : Tok} (h : t.2 = (T.data.toList.drop q).take t.2.length) : cut T q t.2.length = tokStr t := by
  unfold cut tokStr
  rw [← h]
theorem tok_get {T : ByteArray} {q : Nat} {t : Tok} (h : t.2 = (T.data.toList.drop q).take t.2.length) (i : Nat) (hi : i < t.2.length) (hq : q + i < T.size) : nb t.2[i] = chAt T (q + i) := by
  have e : t.2[i]? = T.data.toList[q + i]? := by
    rw [h, List.getElem?_take_of_lt hi, List.getElem?_drop]
  rw [List.getElem?_eq_getElem hi, List.getElem?_eq_getElem (by rw [size_toList]; exact hq)] at e
  rw [chAt_get (by rw [size_toList]; exact hq)]
  rw [Option.some.inj e]
theorem tok_print {T : ByteArray} {q : Nat} {t : Tok} (h : t.2 = (T.data.toList.drop q).take t.2.length) (hq : q + t.2.length ≤ T.size) (hk : TkAt T q t) : ∀ x ∈ (tokStr t).data.toList, 32 ≤ x.toNat ∧ x.toNat ≤ 126 ∧ x.toNat ≠ 34 ∧ x.toNat ≠ 92 := by
  intro x hx
  rw [tokStr_list] at hx
  obtain ⟨i, hi, rfl⟩ := List.getElem_of_mem hx
  have := tk_cls hk i hi
  rw [← tok_get h i hi (by omega)] at this
  unfold TokC nb at this
  omega

/-- the token's kind, unless it is padded -/
theorem tk_kind {T : ByteArray} {q : Nat} {t : Tok} (h : t.2 = (T.data.toList.drop q).take t.2.length) (h0 : 0 < t.2.length) (hk : TkAt T q t) (hp : t.1 = 49 → ¬ pad0 t.2) : Kind T q t.2.length := by
  rcases hk with ⟨h1, h2⟩ | ⟨h1, h2⟩ | ⟨h49, hd, p, hM, hX⟩
  · exact .sign h2 h1
  · exact .word h1 h0 h2
  · rcases hd with hd | h46
    · refine .num hd (fun h48 => Bool.eq_false_iff.2 fun hd2 => hp h49 ?_) p hM hX
      obtain ⟨g1, g2, g3, _⟩ := num_cls hM hX
      have hn2 : 2 ≤ t.2.length := by rw [dgAt_succ hd, dgAt_succ hd2] at g3; omega
      rcases drop_at (T := T) q with ⟨hlt, c, hc, hch⟩ | ⟨hn, hc, hch⟩
      · rw [hch] at h48
        have hc48 : c = 48 := by
          apply UInt8.toNat_inj.1
          have : (c.toNat : Int) = 48 := h48
          show c.toNat = 48
          omega
        subst hc48
        obtain ⟨k, hk⟩ : ∃ k, t.2.length = k + 1 := ⟨t.2.length - 1, by omega⟩
        rw [h, hk]
        refine ⟨(T.data.toList.drop (q + 1)).take k, by rw [hc]; rfl, ?_⟩
        rw [digs_take]
        have : digs (T.data.toList.drop (q + 1)) = dgAt T (q + 1) := rfl
        rw [this, dgAt_succ hd2]
        omega
      · rw [hch] at h48; cases h48
    · have hz : dgAt T q = 0 := dgAt_zero (by rw [h46]; decide)
      unfold MantAt at hM
      rw [hz] at hM
      rcases hM with ⟨_, h0', hp'⟩ | ⟨_, h0', _⟩
      · rw [Nat.zero_add] at h0'
        subst hp'
        exact .dot h46 h0' hX
      · omega
theorem kind_eof {T : ByteArray} : Kind T T.size 0 := .eof rfl rfl

/-- what ParseFloat is told of a token -/
theorem tok_num {n : Nat} {t : Tok} (h : TokOK n t) (hn : n ≤ 2000) (h49 : t.1 = 49) : NumText (tokStr t) false 0 :=
  ⟨by rw [tokStr_size]; have := h.1; omega, h.2 h49, .inl ⟨rfl, rfl⟩⟩
def minus (s : ByteArray) : ByteArray := ⟨(45 :: s.data.toList).toArray⟩
theorem tok_minus {n : Nat} {t : Tok} (h : TokOK n t) (hn : n ≤ 2000) (h49 : t.1 = 49) : NumText (minus (tokStr t)) true 1 := by
  have hs : (minus (tokStr t)).size = t.2.length + 1 := by rw [← size_toList]; rfl
  exact ⟨by rw [hs]; have := h.1; omega, h.2 h49, .inr ⟨rfl, rfl, by rw [hs]; omega, rfl⟩⟩
theorem tok_bad {T : ByteArray} {q : Nat} {t : Tok} (h : t.2 = (T.data.toList.drop q).take t.2.length) (h0 : 0 < t.2.length) (hq : q + t.2.length ≤ T.size) (hT : T.size ≤ 2000) (hk : TkAt T q t) (h49 : t.1 ≠ 49) : BadText (tokStr t) := by
  have hsz := tokStr_size t
  have hg := tok_get h 0 h0 (by omega)
  rw [Nat.add_zero] at hg
  have e0 : ∀ h' : 0 < (tokStr t).size, nb (tokStr t)[0] = chAt T q := fun _ => hg
  refine ⟨by omega, by omega, ?_⟩
  rcases hk with ⟨h1, h2⟩ | ⟨h1, h2⟩ | ⟨h49', _⟩
  · by_cases h45 : chAt T q = 45
    · exact .inr ⟨by omega, by omega, by rw [e0 (by omega)]; exact h45⟩
    · refine .inl ⟨by omega, ?_⟩
      rw [e0 (by omega)]
      refine ⟨?_, ?_, ?_, ?_, ?_⟩
      · rw [beq_eq_false_iff_ne]; omega
      · rw [beq_eq_false_iff_ne]; omega
      · rw [beq_eq_false_iff_ne]; omega
      · rw [beq_eq_false_iff_ne]; omega
      · omega
  · have := isLetI_rng (h1 0 h0)
    rw [Nat.add_zero] at this
    refine .inl ⟨by omega, ?_⟩
    rw [e0 (by omega)]
    refine ⟨?_, ?_, ?_, ?_, ?_⟩
    · rw [beq_eq_false_iff_ne]; omega
    · rw [beq_eq_false_iff_ne]; omega
    · rw [beq_eq_false_iff_ne]; omega
    · rw [beq_eq_false_iff_ne]; omega
    · omega
  · exact absurd h49' h49

/-- a decimal, with a minus ahead or without -/
def numOf (neg : Bool) : List Tok → Option (Nat × List Tok)
  | [] => none
  | t :: r => if t.1 = 49 ∧ PF t.2 < Fl.I then some (Fl.sg neg (PF t.2), r) else none
def pNum : List Tok → Option (Nat × List Tok)
  | [] => none
  | t :: r => if t.2 = [45] then numOf true r else numOf false (t :: r)

end Go.Proofs.YtfmkfnochjeleaaGreatDoor

namespace Go.Proofs.YtfmkfnochjeleaaGreatDoor
open Go.RowKit

/-- what stays through the reading of a place -/
structure GEnv (T : ByteArray) (B b rb : Nat) (w : World) : Prop where
  txt : Txt T
  us : ∀ i, chAt T i ≠ 95
  env : SEnv B b rb w
  tabs : Tabs B w
  e1 : ErrTab B 1 w
  e2 : ErrTab B 2 w
  eof : GEof w
theorem GEnv.below {T : ByteArray} {B b rb c : Nat} {w w' : World} (h : GEnv T B b rb w) (hb : Below c w w') (hc : B ≤ c) : GEnv T B b rb w' := by
  refine ⟨h.txt, h.us, h.env.below hb hc, h.tabs.below hb hc, h.e1.below hb hc, h.e2.below hb hc, ?_⟩
  obtain ⟨s, hs⟩ := h.eof
  have := h.env.globs
  exact ⟨s, by rw [hb.cell (show (⟨3, 0, none⟩ : Addr).block < c by show 3 < c; omega)]; exact hs⟩

/-- the parser between tokens: the tokens ts are left -/
def ParseAt (T : ByteArray) (B b rb : Nat) (ts : List Tok) (w : World) : Prop :=
  (∀ t ∈ ts, t.1 = 49 → ¬ pad0 t.2) ∧ ∃ q K f j, Rest T B b rb q K w ∧ LK rb K ∧ q ≤ T.size ∧ tks f (T.data.toList.drop q) j = some ts
theorem Rest.below {T : ByteArray} {B b rb q : Nat} {K : PS} {w w' : World} (h : Rest T B b rb q K w) (hb : Below w.heap.size w w') : Rest T B b rb q K w' := by
  rcases h with ⟨ts, l, ⟨⟨o, e', p, h1, h2, h3, h4, h5, h6⟩, h7, h8, h9, h10⟩, hc⟩ | ⟨h1, h2, l, o', e, p, h3, h4, h5⟩
  · exact .inl ⟨ts, l, ⟨⟨o, e', p, h1.below hb, h2.of_heap (hb.block rb h2.lt), h3, h4, h5, h6⟩, h7, h8, h9, h10⟩, hc⟩
  · exact .inr ⟨h1, h2, l, o', e, p, h3.below hb, h4.of_heap (hb.block rb h4.lt), h5⟩
theorem ParseAt.below {T : ByteArray} {B b rb : Nat} {ts : List Tok} {w w' : World} (h : ParseAt T B b rb ts w) (hb : Below w.heap.size w w') : ParseAt T B b rb ts w' := by
  obtain ⟨hp, q, K, f, j, h1, h2⟩ := h
  exact ⟨hp, q, K, f, j, h1.below hb, h2⟩
theorem ParseAt.sat {T : ByteArray} {B b rb : Nat} {ts : List Tok} {w : World} (h : ParseAt T B b rb ts w) : B ≤ b ∧ b < w.heap.size := by
  obtain ⟨hp, q, K, f, j, h1, h2⟩ := h
  obtain ⟨l, hl⟩ := h1.sat
  exact ⟨hl.le, hl.lt⟩
theorem KeptO.of_below {b rb : Nat} {w w' : World} (hb : Below w.heap.size w w') : KeptO b rb w w' := fun i o h1 _ _ _ => by
  rw [hb.block i (Array.getElem?_eq_some_iff.1 h1).1]; exact h1

/-- what a token is -/
structure TokFacts (t : Tok) : Prop where
  pos : 0 < t.2.length
  le : t.2.length ≤ 2000
  print : ∀ x ∈ (tokStr t).data.toList, 32 ≤ x.toNat ∧ x.toNat ≤ 126 ∧ x.toNat ≠ 34 ∧ x.toNat ≠ 92
  num : t.1 = 49 → NumText (tokStr t) false 0
  bad : t.1 ≠ 49 → BadText (tokStr t)

def LexTok (T : ByteArray) (B b rb : Nat) (ts : List Tok) (w : World) (e : Ending) (w' : World) : Prop :=
  (ts = [] ∧ ∃ v, e = .returned (.tuple #[.string ⟨#[]⟩, .iface 96 v]) ∧ Below B w w') ∨
  (∃ t ts', ts = t :: ts' ∧ TokFacts t ∧ e = .returned (.tuple #[.string (tokStr t), .nilIface]) ∧ ParseAt T B b rb ts' w' ∧ Below B w w' ∧ KeptO b rb w w')
theorem lex_tok (T : ByteArray) (B b rb : Nat) (ts : List Tok) (w : World) (h : ParseAt T B b rb ts w) (hE : GEnv T B b rb w) :
    Calls Tryz.prog 36 #[.pointer (some ⟨b, 0, none⟩)] w (LexTok T B b rb ts w) := by
  obtain ⟨hp, q, K, f, j, hR, hL, hq, ht⟩ := h
  have hTo := tks_ok f (T.data.toList.drop q) j ts ht
  obtain ⟨q1, g1, g2, g3⟩ := lex_step f q j ts hq ht
  rcases g3 with ⟨rfl, rfl⟩ | ⟨t, ts', f', j', rfl, e2, e3, e4, e5, e6, e7⟩
  · refine (lexNext_any T B b rb q T.size 0 K w hR hE.txt hE.env hL hE.eof g1 (Nat.le_refl _) g2 kind_eof hE.us).mono ?_
    rintro e w' (⟨_, v, h1, h2⟩ | ⟨h1, _⟩)
    · exact .inl ⟨rfl, v, h1, h2⟩
    · omega
  · have hT := hE.txt.size
    have hk := tk_kind e3 e4 e7 (hp t (List.mem_cons_self ..))
    refine (lexNext_any T B b rb q q1 t.2.length K w hR hE.txt hE.env hL hE.eof g1 (by omega) g2 hk hE.us).mono ?_
    rintro e w' (⟨h1, _⟩ | ⟨_, h1, K', h2, h3, h4, h5⟩)
    · omega
    · have hto := hTo t (List.mem_cons_self ..)
      have hn : (T.data.toList.drop q).length ≤ 2000 := by rw [drop_len]; omega
      refine .inr ⟨t, ts', rfl, ⟨e4, by omega, tok_print e3 e5 e7, fun h49 => tok_num hto hn h49, fun h49 => tok_bad e3 e4 e5 hT e7 h49⟩, ?_, ⟨fun x hx => hp x (List.mem_cons_of_mem _ hx), q1 + t.2.length, K', f', j', h2, h3, e5, e6⟩, h4, h5⟩
      rw [h1, cut_tok e3]

def FloatPost (t : Tok) (B : Nat) (w : World) (e : Ending) (w' : World) : Prop :=
  ∃ f v, e = .returned (.tuple #[.float .f64 f, v]) ∧ Hid (
    (t.1 = 49 ∧ PF t.2 < Fl.I ∧ f = PF t.2 ∧ v = .nilIface ∧ Below w.heap.size w w') ∨
    (¬ (t.1 = 49 ∧ PF t.2 < Fl.I) ∧ v = .nilIface ∧ InfNan f ∧ w = w') ∨
    (¬ (t.1 = 49 ∧ PF t.2 < Fl.I) ∧ ∃ N, v = .iface 84 (.pointer (some ⟨N, 0, none⟩)) ∧ NumErr B (tokStr t) w N w'))
theorem sg_false (r : Nat) : Fl.sg false r = r := by unfold Fl.sg; rw [if_neg (by decide)]
theorem float_tok (t : Tok) (B : Nat) (w : World) (h : TokFacts t) (hT : Tabs B w) (e1 : ErrTab B 1 w) (e2 : ErrTab B 2 w) : Calls Tryz.prog 18 #[.string (tokStr t), .int .i64 64] w (FloatPost t B w) := by
  by_cases h49 : t.1 = 49
  · have hn := h.num h49
    have e0 : (tokStr t).data.toList.drop 0 = t.2 := by rw [List.drop_zero]; rfl
    rcases Nat.lt_or_ge (PF t.2) Fl.I with hlt | hge
    · have hc := pf18_fin (tokStr t) false 0 w hn B hT (by rw [e0]; exact hlt)
      rw [e0, sg_false] at hc
      obtain ⟨R, hR⟩ : ∃ R, R = PF t.2 := ⟨_, rfl⟩
      rw [← hR] at hc hlt
      refine hc.mono ?_
      rintro e w' ⟨rfl, h2⟩
      exact ⟨R, _, rfl, .inl ⟨h49, by rw [← hR]; exact hlt, hR, rfl, h2⟩⟩
    · have heq : PF t.2 = Fl.I := Nat.le_antisymm (PF_le t.2) hge
      have hc := pf18_inf (tokStr t) false 0 w hn B hT e1 e2 (by rw [e0]; exact heq)
      refine hc.mono ?_
      rintro e w' ⟨f, N, rfl, h2⟩
      exact ⟨f, _, rfl, .inr (.inr ⟨fun hh => Nat.lt_irrefl _ (Nat.lt_of_lt_of_le hh.2 hge), N, rfl, h2⟩)⟩
  · refine (pf18_bad (tokStr t) w (h.bad h49) B e1 e2).mono ?_
    rintro e w' (⟨f, rfl, h1, h2⟩ | ⟨f, N, rfl, h1⟩)
    · exact ⟨f, _, rfl, .inr (.inl ⟨fun hh => h49 hh.1, rfl, h1, h2⟩)⟩
    · exact ⟨f, _, rfl, .inr (.inr ⟨fun hh => h49 hh.1, N, rfl, h1⟩)⟩

end Go.Proofs.YtfmkfnochjeleaaGreatDoor

namespace Go.Proofs.YtfmkfnochjeleaaGreatDoor
open Go.RowKit

def LitPost (T : ByteArray) (B b rb : Nat) (ts : List Tok) (w : World) (e : Ending) (w' : World) : Prop :=
  (pNum ts = none ∧ ∃ f v, e = .returned (.tuple #[.float .f64 f, .iface 96 v]) ∧ Below B w w') ∨
  (∃ x ts', pNum ts = some (x, ts') ∧ e = .returned (.tuple #[.float .f64 x, .nilIface]) ∧ ParseAt T B b rb ts' w' ∧ Below B w w' ∧ KeptO b rb w w')

theorem pNum_minus {t : Tok} {r : List Tok} (h : t.2 = [45]) : pNum (t :: r) = numOf true r := by simp only [pNum, if_pos h]
theorem pNum_plain {t : Tok} {r : List Tok} (h : ¬ t.2 = [45]) : pNum (t :: r) = numOf false (t :: r) := by simp only [pNum, if_neg h]
theorem numOf_some {neg : Bool} {t : Tok} {r : List Tok} (h1 : t.1 = 49) (h2 : PF t.2 < Fl.I) : numOf neg (t :: r) = some (Fl.sg neg (PF t.2), r) := by simp only [numOf, if_pos (And.intro h1 h2)]
theorem numOf_none {neg : Bool} {t : Tok} {r : List Tok} (h : ¬ (t.1 = 49 ∧ PF t.2 < Fl.I)) : numOf neg (t :: r) = none := by simp only [numOf, if_neg h]
theorem tokStr_minus {t : Tok} (h : t.2 = [45]) : tokStr t = ⟨#[45]⟩ := by unfold tokStr; rw [h]
theorem tokStr_ne {t : Tok} (h : ¬ t.2 = [45]) : ((tokStr t).toList == [45]) = false := by
  rw [beq_eq_false_iff_ne, ByteArray.toList_eq]
  exact h

/-- the error's text -/
theorem errText (B : Nat) (t : Tok) (N : Nat) (w w' : World) (h : TokFacts t) (hB : B ≤ w.heap.size) (hN : NumErr B (tokStr t) w N w') :
    Calls Tryz.prog 144 #[.pointer (some ⟨N, 0, none⟩)] w' fun e w2 => ∃ z, e = .returned (.string z) ∧ Hid (Below w.heap.size w w2) := by
  obtain ⟨h1, fn, b, o, tx, h2, h3, h4, h5, h6, h7⟩ := hN
  have hb : b < w'.heap.size := Nat.lt_of_lt_of_le h4 (Nat.le_trans hB h7.size)
  refine (numErr_any N b o fn (tokStr t) tx w' h3 h2 h6 ?_ hb (by rw [tokStr_size]; have := h.le; omega) h.print).mono ?_
  · rw [h7.cell (show (⟨b, o, none⟩ : Addr).block < w.heap.size by show b < _; omega)]
    exact h5
  · rintro e w2 ⟨⟨z, rfl⟩, h8⟩
    exact ⟨z, rfl, h7.trans (h8.mono h7.size)⟩

set_option maxHeartbeats 4000000 in
set_option maxRecDepth 100000 in
theorem lit28 (T : ByteArray) (B b rb : Nat) (ts : List Tok) (w : World) (h : ParseAt T B b rb ts w) (hE : GEnv T B b rb w) :
    Calls Tryz.prog 28 #[.pointer (some ⟨b, 0, none⟩)] w (LitPost T B b rb ts w) := by
  have C36 := lex_tok T B b rb ts w h hE
  have HE := Lib.hid hE
  have HB := Lib.hid h.sat
  have hm37 := c37_fin
  clear h hE hm37
  have hmeth : ∀ N w, (method 333 84 (.pointer (some ⟨N, 0, none⟩)) "Error").run Tryz.prog w = .ok (144, .pointer (some ⟨N, 0, none⟩)) w := fun N w => rfl
  cases ts with
  | nil =>
    have C36' : Hid (Calls Tryz.prog 36 #[.pointer (some ⟨b, 0, none⟩)] w fun e w' => ∃ v, e = .returned (.tuple #[.string ⟨#[]⟩, .iface 96 v]) ∧ Hid (Below B w w')) := by
      refine C36.mono ?_
      rintro e w' (⟨_, v, h1, h2⟩ | ⟨t, ts', h1, _⟩)
      · exact ⟨v, h1, h2⟩
      · cases h1
    clear C36
    go_enter Tryz.func28, Tryz.ntmps28
    go_wp2_with (go_at_call 36; refine C36'.out.mono ?_; rintro e w1 ⟨v, rfl, hb⟩)
    go_ret2
    exact .inl ⟨rfl, _, v, rfl, hb.out⟩
  | cons t r =>
    have C36' : Hid (Calls Tryz.prog 36 #[.pointer (some ⟨b, 0, none⟩)] w fun e w' => e = .returned (.tuple #[.string (tokStr t), .nilIface]) ∧ Hid (TokFacts t ∧ ParseAt T B b rb r w' ∧ Below B w w' ∧ KeptO b rb w w')) := by
      refine C36.mono ?_
      rintro e w' (⟨h0, _⟩ | ⟨t', ts', h1, h2, h3, h4, h5, h6⟩)
      · cases h0
      · injection h1 with h1 h1'
        subst h1 h1'
        exact ⟨h3, h2, h4, h5, h6⟩
    clear C36
    by_cases hm : t.2 = [45]
    · have C36b : Hid (∀ w1, Hid (TokFacts t ∧ ParseAt T B b rb r w1 ∧ Below B w w1 ∧ KeptO b rb w w1) → Calls Tryz.prog 36 #[.pointer (some ⟨b, 0, none⟩)] w1 (LexTok T B b rb r w1)) := fun w1 hw1 => lex_tok T B b rb r w1 hw1.out.2.1 (HE.out.below hw1.out.2.2.1 (Nat.le_refl _))
      have HPN := Lib.hid (pNum_minus (r := r) hm)
      rw [tokStr_minus hm] at C36'
      clear hm
      cases r with
      | nil =>
        have C36c : Hid (∀ w1, Hid (TokFacts t ∧ ParseAt T B b rb [] w1 ∧ Below B w w1 ∧ KeptO b rb w w1) → Calls Tryz.prog 36 #[.pointer (some ⟨b, 0, none⟩)] w1 fun e w' => ∃ v, e = .returned (.tuple #[.string ⟨#[]⟩, .iface 96 v]) ∧ Hid (Below B w w')) := by
          intro w1 hw1
          refine (C36b.out w1 hw1).mono ?_
          rintro e w' (⟨_, v, h1, h2⟩ | ⟨t, ts', h1, _⟩)
          · exact ⟨v, h1, hw1.out.2.2.1.trans h2⟩
          · cases h1
        clear C36b
        go_enter Tryz.func28, Tryz.ntmps28
        go_wp2_with first | (go_at_call 36; refine C36'.out.mono ?_; rintro e w1 ⟨rfl, hb⟩) | (go_at_call 36; refine (C36c.out _ hb).mono ?_; rintro e w2 ⟨v, rfl, hb2⟩)
        go_ret2
        exact .inl ⟨HPN.out, _, v, rfl, hb2.out⟩
      | cons t2 r2 =>
        have C36c : Hid (∀ w1, Hid (TokFacts t ∧ ParseAt T B b rb (t2 :: r2) w1 ∧ Below B w w1 ∧ KeptO b rb w w1) → Calls Tryz.prog 36 #[.pointer (some ⟨b, 0, none⟩)] w1 fun e w' => e = .returned (.tuple #[.string (tokStr t2), .nilIface]) ∧ Hid (TokFacts t2 ∧ ParseAt T B b rb r2 w' ∧ Below B w w' ∧ KeptO b rb w w')) := by
          intro w1 hw1
          refine (C36b.out w1 hw1).mono ?_
          rintro e w' (⟨h0, _⟩ | ⟨t', ts', h1, h2, h3, h4, h5, h6⟩)
          · cases h0
          · injection h1 with h1 h1'
            subst h1 h1'
            exact ⟨h3, h2, h4, hw1.out.2.2.1.trans h5, hw1.out.2.2.2.trans h6⟩
        clear C36b
        have C18 : Hid (∀ w1, Hid (TokFacts t2 ∧ ParseAt T B b rb r2 w1 ∧ Below B w w1 ∧ KeptO b rb w w1) → Calls Tryz.prog 18 #[.string (tokStr t2), .int .i64 64] w1 (FloatPost t2 B w1)) := by
          intro w1 hw1
          have hE1 := HE.out.below hw1.out.2.2.1 (Nat.le_refl _)
          exact float_tok t2 B w1 hw1.out.1 hE1.tabs hE1.e1 hE1.e2
        go_enter Tryz.func28, Tryz.ntmps28
        go_upto_region 11 with first | (go_at_call 36; refine C36'.out.mono ?_; rintro e w1 ⟨rfl, hb⟩) | (go_at_call 36; refine (C36c.out _ hb).mono ?_; rintro e w2 ⟨rfl, hb2⟩) | (go_at_call 18; refine (C18.out _ hb2).mono ?_; rintro e w3 ⟨f, v, rfl, hfl⟩)
        obtain ⟨hTF, hPA, hBB, hKK⟩ := hb2.out
        have HTF := Lib.hid hTF
        have HPA := Lib.hid hPA
        have HBB := Lib.hid hBB
        have HKK := Lib.hid hKK
        have hsz := (HE.out.below hBB (Nat.le_refl _)).env.size
        have HSZ := Lib.hid hsz
        clear hTF hPA hBB hKK hsz
        rcases hfl.out with ⟨h49, hlt, rfl, rfl, hbw⟩ | ⟨hno, rfl, hin, rfl⟩ | ⟨hno, N, rfl, hN⟩
        · obtain ⟨R, hR⟩ : ∃ R, R = PF t2.2 := ⟨_, rfl⟩
          rw [← hR] at hlt hfl ⊢
          have C37 := Lib.hid (fun w => c37_fin R w hlt)
          have C38 := Lib.hid (fun w => c38_fin R w hlt)
          have HR := Lib.hid hR
          have H49 := Lib.hid h49
          have HLT := Lib.hid hlt
          have HBW := Lib.hid hbw
          have hmul : ∀ t w, (binOp .mul t (.float .f64 R) (.float .f64 13830554455654793216)).run Tryz.prog w = .ok (.float .f64 (Fl.sg true R)) w := fun t w => run_float_arith w .mul t .f64 _ _ _ (Fl.mul_minus_one hlt)
          clear hfl hR h49 hlt hbw
          go_wp2_with first | (go_at_call 37; refine (C37.out _).mono ?_; rintro e w4 ⟨rfl, rfl⟩) | (go_at_call 38; refine (C38.out _).mono ?_; rintro e w4 ⟨rfl, rfl⟩)
          go_ret2
          refine .inr ⟨Fl.sg true R, r2, ?_, rfl, HPA.out.below HBW.out, HBB.out.trans (HBW.out.mono HSZ.out), HKK.out.trans (KeptO.of_below HBW.out)⟩
          rw [HPN.out, numOf_some H49.out (by rw [← HR.out]; exact HLT.out), ← HR.out]
        · have C37 := Lib.hid (fun w => c37_bad f w hin)
          have HNO := Lib.hid hno
          by_cases hnan : f = 9221120237041090561
          · rw [decide_eq_true hnan] at C37
            clear hin hfl hno hnan
            go_wp2_with (go_at_call 37; refine (C37.out _).mono ?_; rintro e w4 ⟨rfl, rfl⟩)
            go_ret2
            exact .inl ⟨HPN.out.trans (numOf_none HNO.out), _, _, rfl, HBB.out⟩
          · rw [decide_eq_false hnan] at C37
            have C38 := Lib.hid (fun w => c38_bad f w hin hnan)
            clear hin hfl hno hnan
            go_wp2_with first | (go_at_call 37; refine (C37.out _).mono ?_; rintro e w4 ⟨rfl, rfl⟩) | (go_at_call 38; refine (C38.out _).mono ?_; rintro e w4 ⟨rfl, rfl⟩)
            go_ret2
            exact .inl ⟨HPN.out.trans (numOf_none HNO.out), _, _, rfl, HBB.out⟩
        · have HNO := Lib.hid hno
          have C144 := Lib.hid (errText B t2 N _ _ HTF.out HSZ.out hN)
          clear hfl hno hN
          go_wp2_with (go_at_call 144; refine C144.out.mono ?_; rintro e w4 ⟨z, rfl, hz⟩)
          go_ret2
          exact .inl ⟨HPN.out.trans (numOf_none HNO.out), _, _, rfl, HBB.out.trans (hz.out.mono HSZ.out)⟩
    · have hne := tokStr_ne hm
      have HPN := Lib.hid (pNum_plain (r := r) hm)
      clear hm
      have C18 : Hid (∀ w1, Hid (TokFacts t ∧ ParseAt T B b rb r w1 ∧ Below B w w1 ∧ KeptO b rb w w1) → Calls Tryz.prog 18 #[.string (tokStr t), .int .i64 64] w1 (FloatPost t B w1)) := by
        intro w1 hw1
        have hE1 := HE.out.below hw1.out.2.2.1 (Nat.le_refl _)
        exact float_tok t B w1 hw1.out.1 hE1.tabs hE1.e1 hE1.e2
      go_enter Tryz.func28, Tryz.ntmps28
      go_upto_region 11 with first | (go_at_call 36; refine C36'.out.mono ?_; rintro e w1 ⟨rfl, hb⟩) | (go_at_call 18; refine (C18.out _ hb).mono ?_; rintro e w3 ⟨f, v, rfl, hfl⟩)
      obtain ⟨hTF, hPA, hBB, hKK⟩ := hb.out
      have HTF := Lib.hid hTF
      have HPA := Lib.hid hPA
      have HBB := Lib.hid hBB
      have HKK := Lib.hid hKK
      have hsz := (HE.out.below hBB (Nat.le_refl _)).env.size
      have HSZ := Lib.hid hsz
      clear hTF hPA hBB hKK hsz
      rcases hfl.out with ⟨h49, hlt, rfl, rfl, hbw⟩ | ⟨hno, rfl, hin, rfl⟩ | ⟨hno, N, rfl, hN⟩
      · obtain ⟨R, hR⟩ : ∃ R, R = PF t.2 := ⟨_, rfl⟩
        rw [← hR] at hlt hfl ⊢
        have C37 := Lib.hid (fun w => c37_fin R w hlt)
        have C38 := Lib.hid (fun w => c38_fin R w hlt)
        have HR := Lib.hid hR
        have H49 := Lib.hid h49
        have HLT := Lib.hid hlt
        have HBW := Lib.hid hbw
        clear hfl hR h49 hlt hbw
        go_wp2_with first | (go_at_call 37; refine (C37.out _).mono ?_; rintro e w4 ⟨rfl, rfl⟩) | (go_at_call 38; refine (C38.out _).mono ?_; rintro e w4 ⟨rfl, rfl⟩)
        go_ret2
        refine .inr ⟨R, r, ?_, rfl, HPA.out.below HBW.out, HBB.out.trans (HBW.out.mono HSZ.out), HKK.out.trans (KeptO.of_below HBW.out)⟩
        rw [HPN.out, numOf_some H49.out (by rw [← HR.out]; exact HLT.out), sg_false, ← HR.out]
      · have C37 := Lib.hid (fun w => c37_bad f w hin)
        have HNO := Lib.hid hno
        by_cases hnan : f = 9221120237041090561
        · rw [decide_eq_true hnan] at C37
          clear hin hfl hno hnan
          go_wp2_with (go_at_call 37; refine (C37.out _).mono ?_; rintro e w4 ⟨rfl, rfl⟩)
          go_ret2
          exact .inl ⟨HPN.out.trans (numOf_none HNO.out), _, _, rfl, HBB.out⟩
        · rw [decide_eq_false hnan] at C37
          have C38 := Lib.hid (fun w => c38_bad f w hin hnan)
          clear hin hfl hno hnan
          go_wp2_with first | (go_at_call 37; refine (C37.out _).mono ?_; rintro e w4 ⟨rfl, rfl⟩) | (go_at_call 38; refine (C38.out _).mono ?_; rintro e w4 ⟨rfl, rfl⟩)
          go_ret2
          exact .inl ⟨HPN.out.trans (numOf_none HNO.out), _, _, rfl, HBB.out⟩
      · have HNO := Lib.hid hno
        have C144 := Lib.hid (errText B t N _ _ HTF.out HSZ.out hN)
        clear hfl hno hN
        go_wp2_with (go_at_call 144; refine C144.out.mono ?_; rintro e w4 ⟨z, rfl, hz⟩)
        go_ret2
        exact .inl ⟨HPN.out.trans (numOf_none HNO.out), _, _, rfl, HBB.out.trans (hz.out.mono HSZ.out)⟩

end Go.Proofs.YtfmkfnochjeleaaGreatDoor
