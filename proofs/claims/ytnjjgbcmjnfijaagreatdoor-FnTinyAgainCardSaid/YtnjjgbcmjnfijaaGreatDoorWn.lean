/- The package's writer of tiny bytes: a geometry by its kind. No condition. -/
import Derived.Test.YtnjjgbcmjnfijaaGreatDoorWm
namespace Go.Proofs.YtnjjgbcmjnfijaaGreatDoor
set_option maxRecDepth 100000
set_option maxHeartbeats 1000000
open Go.RowKit
def SOk (k:Nat) (ps:List Int) (s:Sh):Prop :=
 match k,s with
 | 1,.one xs=>WR ps 1 xs∧∀x∈xs,x.2.natAbs < 35184372088832
 | 2,.one xs=>(∃n,0 < n∧n≤5000∧WR ps n xs)∧∀x∈xs,x.2.natAbs < 35184372088832
 | 3,.two xs=>LsOk ps xs
 | 4,.two xs=>∀x∈xs,WR ps 1 x∧∀y∈x,y.2.natAbs < 35184372088832
 | 5,.two xs=>LsOk ps xs
 | 6,.three xs=>∀x∈xs,LsOk ps x
 | _,_=>False
theorem wg153_1{B wb:Nat}{q:Wt}{H C:List UInt8}{w:World}(h:WtAt B wb q H C w){d p z m x0 hh:Nat}{ps Q:List Int}(hq:WqOk q d ps p z m x0)(hrf:RfOk q.rf Q)(hQ:QOk ps Q)(hH:H.length≤900){s:Sh}(hg:GmE 1 (kId 1) d s (fun b=>b < B) w hh)(hs:SOk 1 ps s)(hC:(C++bodyE 1 ps Q s).length≤10000000000000):
  Calls Tryz.prog 153 #[.pointer (some ⟨wb,0,none⟩),.agg #[.int .i64 1,.iface 208 (.pointer (some ⟨hh,0,none⟩))]] w (KwPost B wb q (hdE H 1 p x0 q.ex) (C++bodyE 1 ps Q s) w):=by
 obtain⟨_,cs,hb,hE⟩:=hg
 cases s with
 | two _=>exact hE.elim
 | three _=>exact hE.elim
 | one xs =>
 obtain⟨a1,a2,a3,a4,rfl,hE⟩:=hE
 have CA:Hid (∀w1,ZF w w1→Calls Tryz.prog 56 #[.agg #[.int .i64 1,.iface 208 (.pointer (some ⟨hh,0,none⟩))]] w1 fun e w'=>e=.returned (.agg #[.float .f64 a1,.float .f64 a2,.float .f64 a3,.float .f64 a4,.int .u8 d,.bool true])∧ZF w1 w'):=fun w1 f=>by
  exact (ac56 a1 a2 a3 a4 d true hh w1 (f.cell (by rw[zC hb];rfl) (fun h=>h)) (f.cell (by rw[zC hb];rfl) (fun h=>h)) (f.cell (by rw[zC hb];rfl) (fun h=>h)) (f.cell (by rw[zC hb];rfl) (fun h=>h)) (f.cell (by rw[zC hb];rfl) (fun h=>h)) (f.cell (by rw[zC hb];rfl) (fun h=>h))).mono (fun e w' h=>⟨h.1,by rw[h.2];exact (Fr.refl _ _).alloc _ |>.alloc _ |>.alloc _⟩)
 have CW:Hid (∀w1,ZF w w1→Calls Tryz.prog 222 #[.pointer (some ⟨wb,0,none⟩),(.agg #[.float .f64 a1,.float .f64 a2,.float .f64 a3,.float .f64 a4,.int .u8 d,.bool true])] w1 (KwPost B wb q (hdE H 1 p x0 q.ex) (C++bodyE 1 ps Q (Sh.one xs)) w1)):=fun w1 f=>by
  exact wk222 (h.keep f) hq hrf hQ hH hs.1 hs.2 hE hC
 have HO:Hid (∀w1 e w2,ZF w w1→KwPost B wb q (hdE H 1 p x0 q.ex) (C++bodyE 1 ps Q (Sh.one xs)) w1 e w2→KwPost B wb q (hdE H 1 p x0 q.ex) (C++bodyE 1 ps Q (Sh.one xs)) w e w2):=fun w1 e w2 f hp=>by
  obtain⟨h1,q',h2⟩:=hp
  exact⟨h1,q',h2.out.1,(Ch.of f).trans h2.out.2⟩
 clear h hq hrf hQ hH hs hC hE hb
 go_enter Tryz.func153,Tryz.ntmps153
 go_upto_region 1 with fail
 have b0:=zN w (.cells #[.int .i64 1,.iface 208 (.pointer (some ⟨hh,0,none⟩))] 56)
 obtain⟨w0,hw0⟩:∃w0,w0=w.alloc (.cells #[.int .i64 1,.iface 208 (.pointer (some ⟨hh,0,none⟩))] 56):=⟨_,rfl⟩
 rw[←hw0] at b0 ⊢
 have F0:Hid (ZF w w0):=by show Fr _ _ _;rw[hw0];exact (Fr.refl _ w).alloc _
 obtain⟨q0,q1,_⟩:=lm_cells b0
 clear hw0 b0
 go_wp2_with (first|(go_at_call 56;(with_reducible refine (CA.out _ F0.out).mono ?_);rintro e w1 ⟨rfl,f1⟩;have F1:=zH (F0.out.trans f1);clear f1)|(go_at_call 222;(with_reducible refine (CW.out _ F1.out).mono ?_);rintro e w2 hp;have HP:=zH (HO.out _ _ _ F1.out hp);obtain⟨rfl,hp2⟩:=hp;clear hp2))
 go_ret
 exact HP.out
theorem wg153_2{B wb:Nat}{q:Wt}{H C:List UInt8}{w:World}(h:WtAt B wb q H C w){d p z m x0 hh:Nat}{ps Q:List Int}(hq:WqOk q d ps p z m x0)(hrf:RfOk q.rf Q)(hQ:QOk ps Q)(hH:H.length≤900){s:Sh}(hg:GmE 2 (kId 2) d s (fun b=>b < B) w hh)(hs:SOk 2 ps s)(hC:(C++bodyE 2 ps Q s).length≤10000000000000):
  Calls Tryz.prog 153 #[.pointer (some ⟨wb,0,none⟩),.agg #[.int .i64 2,.iface 211 (.pointer (some ⟨hh,0,none⟩))]] w (KwPost B wb q (hdE H 2 p x0 q.ex) (C++bodyE 2 ps Q s) w):=by
 obtain⟨_,cs,hb,hE⟩:=hg
 cases s with
 | two _=>exact hE.elim
 | three _=>exact hE.elim
 | one xs =>
 obtain⟨g,o,n,c,rfl,hE⟩:=hE
 have CA:Hid (∀w1,ZF w w1→Calls Tryz.prog 58 #[.agg #[.int .i64 2,.iface 211 (.pointer (some ⟨hh,0,none⟩))]] w1 fun e w'=>e=.returned (.agg #[.int .u8 d,.slice (some ⟨g,o,none⟩) n c])∧ZF w1 w'):=fun w1 f=>by
  exact (ac58 d g o n c hh w1 (f.cell (by rw[zC hb];rfl) (fun h=>h)) (f.cell (by rw[zC hb];rfl) (fun h=>h))).mono (fun e w' h=>⟨h.1,by rw[h.2];exact (Fr.refl _ _).alloc _ |>.alloc _ |>.alloc _⟩)
 have CW:Hid (∀w1,ZF w w1→Calls Tryz.prog 223 #[.pointer (some ⟨wb,0,none⟩),(.agg #[.int .u8 d,.slice (some ⟨g,o,none⟩) n c])] w1 (KwPost B wb q (hdE H 2 p x0 q.ex) (C++bodyE 2 ps Q (Sh.one xs)) w1)):=fun w1 f=>by
  obtain⟨⟨mm,m0,m1,hw⟩,hsm⟩:=hs
  exact wk223 (h.keep f) hq hrf hQ hH m0 m1 hw hsm ((LnE.kp d).kept (fun b _ hl=>f.block b hl (fun h=>h)) ⟨g,o,n,c,rfl,hE⟩) hC
 have HO:Hid (∀w1 e w2,ZF w w1→KwPost B wb q (hdE H 2 p x0 q.ex) (C++bodyE 2 ps Q (Sh.one xs)) w1 e w2→KwPost B wb q (hdE H 2 p x0 q.ex) (C++bodyE 2 ps Q (Sh.one xs)) w e w2):=fun w1 e w2 f hp=>by
  obtain⟨h1,q',h2⟩:=hp
  exact⟨h1,q',h2.out.1,(Ch.of f).trans h2.out.2⟩
 clear h hq hrf hQ hH hs hC hE hb
 go_enter Tryz.func153,Tryz.ntmps153
 go_upto_region 1 with fail
 have b0:=zN w (.cells #[.int .i64 2,.iface 211 (.pointer (some ⟨hh,0,none⟩))] 56)
 obtain⟨w0,hw0⟩:∃w0,w0=w.alloc (.cells #[.int .i64 2,.iface 211 (.pointer (some ⟨hh,0,none⟩))] 56):=⟨_,rfl⟩
 rw[←hw0] at b0 ⊢
 have F0:Hid (ZF w w0):=by show Fr _ _ _;rw[hw0];exact (Fr.refl _ w).alloc _
 obtain⟨q0,q1,_⟩:=lm_cells b0
 clear hw0 b0
 go_wp2_with (first|(go_at_call 58;(with_reducible refine (CA.out _ F0.out).mono ?_);rintro e w1 ⟨rfl,f1⟩;have F1:=zH (F0.out.trans f1);clear f1)|(go_at_call 223;(with_reducible refine (CW.out _ F1.out).mono ?_);rintro e w2 hp;have HP:=zH (HO.out _ _ _ F1.out hp);obtain⟨rfl,hp2⟩:=hp;clear hp2))
 go_ret
 exact HP.out
theorem wg153_3{B wb:Nat}{q:Wt}{H C:List UInt8}{w:World}(h:WtAt B wb q H C w){d p z m x0 hh:Nat}{ps Q:List Int}(hq:WqOk q d ps p z m x0)(hrf:RfOk q.rf Q)(hQ:QOk ps Q)(hH:H.length≤900){s:Sh}(hg:GmE 3 (kId 3) d s (fun b=>b < B) w hh)(hs:SOk 3 ps s)(hC:(C++bodyE 3 ps Q s).length≤10000000000000):
  Calls Tryz.prog 153 #[.pointer (some ⟨wb,0,none⟩),.agg #[.int .i64 3,.iface 213 (.pointer (some ⟨hh,0,none⟩))]] w (KwPost B wb q (hdE H 3 p x0 q.ex) (C++bodyE 3 ps Q s) w):=by
 obtain⟨_,cs,hb,hE⟩:=hg
 cases s with
 | one _=>exact hE.elim
 | three _=>exact hE.elim
 | two xs =>
 obtain⟨g,o,n,c,rfl,hE⟩:=hE
 have CA:Hid (∀w1,ZF w w1→Calls Tryz.prog 60 #[.agg #[.int .i64 3,.iface 213 (.pointer (some ⟨hh,0,none⟩))]] w1 fun e w'=>e=.returned (.agg #[.slice (some ⟨g,o,none⟩) n c,.int .u8 d])∧ZF w1 w'):=fun w1 f=>by
  exact (ac60 d g o n c hh w1 (f.cell (by rw[zC hb];rfl) (fun h=>h)) (f.cell (by rw[zC hb];rfl) (fun h=>h))).mono (fun e w' h=>⟨h.1,by rw[h.2];exact (Fr.refl _ _).alloc _ |>.alloc _ |>.alloc _⟩)
 have CW:Hid (∀w1,ZF w w1→Calls Tryz.prog 224 #[.pointer (some ⟨wb,0,none⟩),(.agg #[.slice (some ⟨g,o,none⟩) n c,.int .u8 d])] w1 (KwPost B wb q (hdE H 3 p x0 q.ex) (C++bodyE 3 ps Q (Sh.two xs)) w1)):=fun w1 f=>by
  have hn:n=xs.length:=by have h1:=hE.1;rw[List.length_map] at h1;exact h1
  exact wk224 (h.keep f) hq hrf hQ hH hs (hE.2.2.2.kept (LnE.kp d) (fun b _ hl=>f.block b hl (fun h=>h))) hn hE.2.1 hE.2.2.1 hC
 have HO:Hid (∀w1 e w2,ZF w w1→KwPost B wb q (hdE H 3 p x0 q.ex) (C++bodyE 3 ps Q (Sh.two xs)) w1 e w2→KwPost B wb q (hdE H 3 p x0 q.ex) (C++bodyE 3 ps Q (Sh.two xs)) w e w2):=fun w1 e w2 f hp=>by
  obtain⟨h1,q',h2⟩:=hp
  exact⟨h1,q',h2.out.1,(Ch.of f).trans h2.out.2⟩
 clear h hq hrf hQ hH hs hC hE hb
 go_enter Tryz.func153,Tryz.ntmps153
 go_upto_region 1 with fail
 have b0:=zN w (.cells #[.int .i64 3,.iface 213 (.pointer (some ⟨hh,0,none⟩))] 56)
 obtain⟨w0,hw0⟩:∃w0,w0=w.alloc (.cells #[.int .i64 3,.iface 213 (.pointer (some ⟨hh,0,none⟩))] 56):=⟨_,rfl⟩
 rw[←hw0] at b0 ⊢
 have F0:Hid (ZF w w0):=by show Fr _ _ _;rw[hw0];exact (Fr.refl _ w).alloc _
 obtain⟨q0,q1,_⟩:=lm_cells b0
 clear hw0 b0
 go_wp2_with (first|(go_at_call 60;(with_reducible refine (CA.out _ F0.out).mono ?_);rintro e w1 ⟨rfl,f1⟩;have F1:=zH (F0.out.trans f1);clear f1)|(go_at_call 224;(with_reducible refine (CW.out _ F1.out).mono ?_);rintro e w2 hp;have HP:=zH (HO.out _ _ _ F1.out hp);obtain⟨rfl,hp2⟩:=hp;clear hp2))
 go_ret
 exact HP.out
theorem wg153_4{B wb:Nat}{q:Wt}{H C:List UInt8}{w:World}(h:WtAt B wb q H C w){d p z m x0 hh:Nat}{ps Q:List Int}(hq:WqOk q d ps p z m x0)(hrf:RfOk q.rf Q)(hQ:QOk ps Q)(hH:H.length≤900){s:Sh}(hg:GmE 4 (kId 4) d s (fun b=>b < B) w hh)(hs:SOk 4 ps s)(hC:(C++bodyE 4 ps Q s).length≤10000000000000):
  Calls Tryz.prog 153 #[.pointer (some ⟨wb,0,none⟩),.agg #[.int .i64 4,.iface 215 (.pointer (some ⟨hh,0,none⟩))]] w (KwPost B wb q (hdE H 4 p x0 q.ex) (C++bodyE 4 ps Q s) w):=by
 obtain⟨_,cs,hb,hE⟩:=hg
 cases s with
 | one _=>exact hE.elim
 | three _=>exact hE.elim
 | two xs =>
 obtain⟨g,o,n,c,rfl,hE⟩:=hE
 have CA:Hid (∀w1,ZF w w1→Calls Tryz.prog 62 #[.agg #[.int .i64 4,.iface 215 (.pointer (some ⟨hh,0,none⟩))]] w1 fun e w'=>e=.returned (.agg #[.slice (some ⟨g,o,none⟩) n c,.int .u8 d])∧ZF w1 w'):=fun w1 f=>by
  exact (ac62 d g o n c hh w1 (f.cell (by rw[zC hb];rfl) (fun h=>h)) (f.cell (by rw[zC hb];rfl) (fun h=>h))).mono (fun e w' h=>⟨h.1,by rw[h.2];exact (Fr.refl _ _).alloc _ |>.alloc _ |>.alloc _⟩)
 have CW:Hid (∀w1,ZF w w1→Calls Tryz.prog 225 #[.pointer (some ⟨wb,0,none⟩),(.agg #[.slice (some ⟨g,o,none⟩) n c,.int .u8 d])] w1 (KwPost B wb q (hdE H 4 p x0 q.ex) (C++bodyE 4 ps Q (Sh.two xs)) w1)):=fun w1 f=>by
  have hn:n=xs.length:=by have h1:=hE.1;rw[List.length_map] at h1;exact h1
  have hC2:=hC
  unfold bodyE at hC2 ⊢
  simp only at hC2 ⊢
  rw[←hn] at hC2 ⊢
  exact wk225 (h.keep f) hq hrf hQ hH hs (hE.2.2.2.kept (PtE.kp d) (fun b _ hl=>f.block b hl (fun h=>h))) hn hE.2.1 hE.2.2.1 hC2
 have HO:Hid (∀w1 e w2,ZF w w1→KwPost B wb q (hdE H 4 p x0 q.ex) (C++bodyE 4 ps Q (Sh.two xs)) w1 e w2→KwPost B wb q (hdE H 4 p x0 q.ex) (C++bodyE 4 ps Q (Sh.two xs)) w e w2):=fun w1 e w2 f hp=>by
  obtain⟨h1,q',h2⟩:=hp
  exact⟨h1,q',h2.out.1,(Ch.of f).trans h2.out.2⟩
 clear h hq hrf hQ hH hs hC hE hb
 go_enter Tryz.func153,Tryz.ntmps153
 go_upto_region 1 with fail
 have b0:=zN w (.cells #[.int .i64 4,.iface 215 (.pointer (some ⟨hh,0,none⟩))] 56)
 obtain⟨w0,hw0⟩:∃w0,w0=w.alloc (.cells #[.int .i64 4,.iface 215 (.pointer (some ⟨hh,0,none⟩))] 56):=⟨_,rfl⟩
 rw[←hw0] at b0 ⊢
 have F0:Hid (ZF w w0):=by show Fr _ _ _;rw[hw0];exact (Fr.refl _ w).alloc _
 obtain⟨q0,q1,_⟩:=lm_cells b0
 clear hw0 b0
 go_wp2_with (first|(go_at_call 62;(with_reducible refine (CA.out _ F0.out).mono ?_);rintro e w1 ⟨rfl,f1⟩;have F1:=zH (F0.out.trans f1);clear f1)|(go_at_call 225;(with_reducible refine (CW.out _ F1.out).mono ?_);rintro e w2 hp;have HP:=zH (HO.out _ _ _ F1.out hp);obtain⟨rfl,hp2⟩:=hp;clear hp2))
 go_ret
 exact HP.out
theorem wg153_5{B wb:Nat}{q:Wt}{H C:List UInt8}{w:World}(h:WtAt B wb q H C w){d p z m x0 hh:Nat}{ps Q:List Int}(hq:WqOk q d ps p z m x0)(hrf:RfOk q.rf Q)(hQ:QOk ps Q)(hH:H.length≤900){s:Sh}(hg:GmE 5 (kId 5) d s (fun b=>b < B) w hh)(hs:SOk 5 ps s)(hC:(C++bodyE 5 ps Q s).length≤10000000000000):
  Calls Tryz.prog 153 #[.pointer (some ⟨wb,0,none⟩),.agg #[.int .i64 5,.iface 217 (.pointer (some ⟨hh,0,none⟩))]] w (KwPost B wb q (hdE H 5 p x0 q.ex) (C++bodyE 5 ps Q s) w):=by
 obtain⟨_,cs,hb,hE⟩:=hg
 cases s with
 | one _=>exact hE.elim
 | three _=>exact hE.elim
 | two xs =>
 obtain⟨g,o,n,c,rfl,hE⟩:=hE
 have CA:Hid (∀w1,ZF w w1→Calls Tryz.prog 64 #[.agg #[.int .i64 5,.iface 217 (.pointer (some ⟨hh,0,none⟩))]] w1 fun e w'=>e=.returned (.agg #[.slice (some ⟨g,o,none⟩) n c,.int .u8 d])∧ZF w1 w'):=fun w1 f=>by
  exact (ac64 d g o n c hh w1 (f.cell (by rw[zC hb];rfl) (fun h=>h)) (f.cell (by rw[zC hb];rfl) (fun h=>h))).mono (fun e w' h=>⟨h.1,by rw[h.2];exact (Fr.refl _ _).alloc _ |>.alloc _ |>.alloc _⟩)
 have CW:Hid (∀w1,ZF w w1→Calls Tryz.prog 226 #[.pointer (some ⟨wb,0,none⟩),(.agg #[.slice (some ⟨g,o,none⟩) n c,.int .u8 d])] w1 (KwPost B wb q (hdE H 5 p x0 q.ex) (C++bodyE 5 ps Q (Sh.two xs)) w1)):=fun w1 f=>by
  have hn:n=xs.length:=by have h1:=hE.1;rw[List.length_map] at h1;exact h1
  have hC2:=hC
  unfold bodyE at hC2 ⊢
  simp only at hC2 ⊢
  rw[←hn] at hC2 ⊢
  exact wk226 (h.keep f) hq hrf hQ hH hs (hE.2.2.2.kept (LnE.kp d) (fun b _ hl=>f.block b hl (fun h=>h))) hn hE.2.1 hE.2.2.1 hC2
 have HO:Hid (∀w1 e w2,ZF w w1→KwPost B wb q (hdE H 5 p x0 q.ex) (C++bodyE 5 ps Q (Sh.two xs)) w1 e w2→KwPost B wb q (hdE H 5 p x0 q.ex) (C++bodyE 5 ps Q (Sh.two xs)) w e w2):=fun w1 e w2 f hp=>by
  obtain⟨h1,q',h2⟩:=hp
  exact⟨h1,q',h2.out.1,(Ch.of f).trans h2.out.2⟩
 clear h hq hrf hQ hH hs hC hE hb
 go_enter Tryz.func153,Tryz.ntmps153
 go_upto_region 1 with fail
 have b0:=zN w (.cells #[.int .i64 5,.iface 217 (.pointer (some ⟨hh,0,none⟩))] 56)
 obtain⟨w0,hw0⟩:∃w0,w0=w.alloc (.cells #[.int .i64 5,.iface 217 (.pointer (some ⟨hh,0,none⟩))] 56):=⟨_,rfl⟩
 rw[←hw0] at b0 ⊢
 have F0:Hid (ZF w w0):=by show Fr _ _ _;rw[hw0];exact (Fr.refl _ w).alloc _
 obtain⟨q0,q1,_⟩:=lm_cells b0
 clear hw0 b0
 go_wp2_with (first|(go_at_call 64;(with_reducible refine (CA.out _ F0.out).mono ?_);rintro e w1 ⟨rfl,f1⟩;have F1:=zH (F0.out.trans f1);clear f1)|(go_at_call 226;(with_reducible refine (CW.out _ F1.out).mono ?_);rintro e w2 hp;have HP:=zH (HO.out _ _ _ F1.out hp);obtain⟨rfl,hp2⟩:=hp;clear hp2))
 go_ret
 exact HP.out
theorem wg153_6{B wb:Nat}{q:Wt}{H C:List UInt8}{w:World}(h:WtAt B wb q H C w){d p z m x0 hh:Nat}{ps Q:List Int}(hq:WqOk q d ps p z m x0)(hrf:RfOk q.rf Q)(hQ:QOk ps Q)(hH:H.length≤900){s:Sh}(hg:GmE 6 (kId 6) d s (fun b=>b < B) w hh)(hs:SOk 6 ps s)(hC:(C++bodyE 6 ps Q s).length≤10000000000000):
  Calls Tryz.prog 153 #[.pointer (some ⟨wb,0,none⟩),.agg #[.int .i64 6,.iface 219 (.pointer (some ⟨hh,0,none⟩))]] w (KwPost B wb q (hdE H 6 p x0 q.ex) (C++bodyE 6 ps Q s) w):=by
 obtain⟨_,cs,hb,hE⟩:=hg
 cases s with
 | one _=>exact hE.elim
 | two _=>exact hE.elim
 | three xs =>
 obtain⟨g,o,n,c,rfl,hE⟩:=hE
 have CA:Hid (∀w1,ZF w w1→Calls Tryz.prog 66 #[.agg #[.int .i64 6,.iface 219 (.pointer (some ⟨hh,0,none⟩))]] w1 fun e w'=>e=.returned (.agg #[.slice (some ⟨g,o,none⟩) n c,.int .u8 d])∧ZF w1 w'):=fun w1 f=>by
  exact (ac66 d g o n c hh w1 (f.cell (by rw[zC hb];rfl) (fun h=>h)) (f.cell (by rw[zC hb];rfl) (fun h=>h))).mono (fun e w' h=>⟨h.1,by rw[h.2];exact (Fr.refl _ _).alloc _ |>.alloc _ |>.alloc _⟩)
 have CW:Hid (∀w1,ZF w w1→Calls Tryz.prog 227 #[.pointer (some ⟨wb,0,none⟩),(.agg #[.slice (some ⟨g,o,none⟩) n c,.int .u8 d])] w1 (KwPost B wb q (hdE H 6 p x0 q.ex) (C++bodyE 6 ps Q (Sh.three xs)) w1)):=fun w1 f=>by
  have hn:n=xs.length:=by have h1:=hE.1;rw[List.length_map] at h1;exact h1
  have hC2:=hC
  unfold bodyE at hC2 ⊢
  simp only at hC2 ⊢
  rw[←hn] at hC2 ⊢
  exact wk227 (h.keep f) hq hrf hQ hH hs (hE.2.2.2.kept (RwE.kp (LnE.kp d) (by decide) d) (fun b _ hl=>f.block b hl (fun h=>h))) hn hE.2.1 hE.2.2.1 hC2
 have HO:Hid (∀w1 e w2,ZF w w1→KwPost B wb q (hdE H 6 p x0 q.ex) (C++bodyE 6 ps Q (Sh.three xs)) w1 e w2→KwPost B wb q (hdE H 6 p x0 q.ex) (C++bodyE 6 ps Q (Sh.three xs)) w e w2):=fun w1 e w2 f hp=>by
  obtain⟨h1,q',h2⟩:=hp
  exact⟨h1,q',h2.out.1,(Ch.of f).trans h2.out.2⟩
 clear h hq hrf hQ hH hs hC hE hb
 go_enter Tryz.func153,Tryz.ntmps153
 go_upto_region 1 with fail
 have b0:=zN w (.cells #[.int .i64 6,.iface 219 (.pointer (some ⟨hh,0,none⟩))] 56)
 obtain⟨w0,hw0⟩:∃w0,w0=w.alloc (.cells #[.int .i64 6,.iface 219 (.pointer (some ⟨hh,0,none⟩))] 56):=⟨_,rfl⟩
 rw[←hw0] at b0 ⊢
 have F0:Hid (ZF w w0):=by show Fr _ _ _;rw[hw0];exact (Fr.refl _ w).alloc _
 obtain⟨q0,q1,_⟩:=lm_cells b0
 clear hw0 b0
 go_wp2_with (first|(go_at_call 66;(with_reducible refine (CA.out _ F0.out).mono ?_);rintro e w1 ⟨rfl,f1⟩;have F1:=zH (F0.out.trans f1);clear f1)|(go_at_call 227;(with_reducible refine (CW.out _ F1.out).mono ?_);rintro e w2 hp;have HP:=zH (HO.out _ _ _ F1.out hp);obtain⟨rfl,hp2⟩:=hp;clear hp2))
 go_ret
 exact HP.out
theorem wg153{B wb:Nat}{q:Wt}{H C:List UInt8}{w:World}(h:WtAt B wb q H C w){k d p z m x0 hh:Nat}(hk:1≤k∧k≤6){ps Q:List Int}(hq:WqOk q d ps p z m x0)(hrf:RfOk q.rf Q)(hQ:QOk ps Q)(hH:H.length≤900){s:Sh}(hg:GmE k (kId k) d s (fun b=>b < B) w hh)(hs:SOk k ps s)(hC:(C++bodyE k ps Q s).length≤10000000000000):
  Calls Tryz.prog 153 #[.pointer (some ⟨wb,0,none⟩),.agg #[.int .i64 k,.iface (kTy k) (.pointer (some ⟨hh,0,none⟩))]] w (KwPost B wb q (hdE H k p x0 q.ex) (C++bodyE k ps Q s) w):=by
 have hk6:k=1∨k=2∨k=3∨k=4∨k=5∨k=6:=by omega
 rcases hk6 with rfl|rfl|rfl|rfl|rfl|rfl
 ·exact wg153_1 h hq hrf hQ hH hg hs hC
 ·exact wg153_2 h hq hrf hQ hH hg hs hC
 ·exact wg153_3 h hq hrf hQ hH hg hs hC
 ·exact wg153_4 h hq hrf hQ hH hg hs hC
 ·exact wg153_5 h hq hrf hQ hH hg hs hC
 ·exact wg153_6 h hq hrf hQ hH hg hs hC
end Go.Proofs.YtnjjgbcmjnfijaaGreatDoor
