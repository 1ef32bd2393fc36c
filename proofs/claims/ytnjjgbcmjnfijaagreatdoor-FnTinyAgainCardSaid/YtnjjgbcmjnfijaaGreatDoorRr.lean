/- The package's reader of tiny bytes as plain data. No condition. -/
import Derived.Test.YtnjjgbcmjnfijaaGreatDoorRp
import Derived.Test.YtnjjgbcmjnfijaaGreatDoorRk
namespace Go.Proofs.YtnjjgbcmjnfijaaGreatDoor
set_option maxRecDepth 100000
set_option maxHeartbeats 4000000
open Go.RowKit
theorem TrPost.le{D D':Nat}{k d:Int}{g:G}{w w':World}{e:Ending}(h:TrPost D k d g w e w')(hd:D≤D'):TrPost D' k d g w e w':=by
 obtain⟨na,n,nc,ka,m,kc,h1,h2⟩:=h
 exact⟨na,n,nc,ka,m,kc,h1,h2.out.1,h2.out.2.le hd⟩
theorem map_lf(k d:Nat)(xs:List (List (Int × Int))):(xs.map (·.map flp)).map (fun x=>G.mk k d x [])=xs.map (lf k d):=by
 rw[List.map_map]
 rfl
theorem wh_ne{k d:Nat}{ks:List G}(h:ks.length≠0):wh k d ks=G.mk k d [] ks:=by
 unfold wh
 rw[if_neg h]
theorem plain26_1{dim:Nat}(hd:dim≤3){s:Sh}{P:Nat→Prop}{w:World}{h:Nat}(hg:GmE 1 (kId 1) dim s P w h):
  Calls Tryz.prog 26 #[.agg #[.int .i64 1,.iface 208 (.pointer (some ⟨h,0,none⟩))]] w (TrPost 3 1 dim (toG 1 dim s) w):=by
 obtain⟨_,cs,hb,hE⟩:=hg
 cases s with
 | two _=>exact hE.elim
 | three _=>exact hE.elim
 | one xs =>
 obtain⟨x,y,z,m,rfl,hE⟩:=hE
 have C54:=zH ac54
 have CA:Hid (∀w1,ZF w w1→Calls Tryz.prog 56 #[.agg #[.int .i64 1,.iface 208 (.pointer (some ⟨h,0,none⟩))]] w1 fun e w'=>e=.returned (.agg #[.float .f64 x,.float .f64 y,.float .f64 z,.float .f64 m,.int .u8 dim,.bool true])∧ZF w1 w'):=fun w1 f=>by
  exact (ac56 x y z m dim true h w1 (f.cell (by rw[zC hb];rfl) (fun h=>h)) (f.cell (by rw[zC hb];rfl) (fun h=>h)) (f.cell (by rw[zC hb];rfl) (fun h=>h)) (f.cell (by rw[zC hb];rfl) (fun h=>h)) (f.cell (by rw[zC hb];rfl) (fun h=>h)) (f.cell (by rw[zC hb];rfl) (fun h=>h))).mono (fun e w' h=>⟨h.1,by rw[h.2];exact (Fr.refl _ _).alloc _ |>.alloc _ |>.alloc _⟩)
 have CP:Hid (∀w1,ZF w w1→Calls Tryz.prog 55 #[(.agg #[.float .f64 x,.float .f64 y,.float .f64 z,.float .f64 m,.int .u8 dim,.bool true])] w1 (TrPost 3 1 dim (toG 1 dim (Sh.one xs)) w1)):=fun w1 f=>by
  have h1:=plain55 x y z m dim hd w1
  rw[←hE] at h1
  exact h1.mono (fun e w' h=>TrPost.le h (by decide))
 obtain⟨g,hgg⟩:∃g,g=toG 1 dim (Sh.one xs):=⟨_,rfl⟩
 rw[←hgg] at CP ⊢
 clear hgg hE hb
 go_enter Tryz.func26,Tryz.ntmps26
 go_upto_region 1 with fail
 have b:=two_allocs w (.cells #[.int .i64 1,.iface 208 (.pointer (some ⟨h,0,none⟩))] 56) (.cells #[.int .i64 0,.int .i64 0,.slice none 0 0,.slice none 0 0] 27)
 obtain⟨w0,hw0⟩:∃w0,w0=(w.alloc (.cells #[.int .i64 1,.iface 208 (.pointer (some ⟨h,0,none⟩))] 56)).alloc (.cells #[.int .i64 0,.int .i64 0,.slice none 0 0,.slice none 0 0] 27):=⟨_,rfl⟩
 rw[←hw0] at b ⊢
 have F0:Hid (ZF w w0):=by show Fr _ _ _;rw[hw0];exact ((Fr.refl _ w).alloc _).alloc _
 have HB:=zH b
 clear hw0 b
 have q0:w0.cell? ⟨w.heap.size,0,none⟩=some (.int .i64 1):=by rw[zC HB.out.1];rfl
 have q1:w0.cell? ⟨w.heap.size,1,none⟩=some (.iface 208 (.pointer (some ⟨h,0,none⟩))):=by rw[zC HB.out.1];rfl
 go_upto_region 2 with (go_at_call 54;refine (C54.out _ _ _).mono ?_;rintro e w1 ⟨rfl,hw1⟩;have F1:Hid (ZF w0 w1):=(by show Fr _ _ _;rw[hw1];exact (Fr.refl _ _).alloc _);clear hw1)
 have q0':=F1.out.cell q0 (fun h=>h)
 have q1':=F1.out.cell q1 (fun h=>h)
 have C1:=zH (CA.out w1 (F0.out.trans F1.out))
 have r0:=(F1.out.block _ (zG HB.out.2).1 (fun h=>h)).trans HB.out.2
 have R1:=zH r0
 clear q0 q1 r0
 go_wp2_with (first|(go_at_call 56;refine C1.out.mono ?_;rintro e w2 ⟨rfl,f2⟩;have F2:=zH (F1.out.trans f2);clear f2)|(go_at_call 55;refine (CP.out w2 (F0.out.trans F2.out)).mono ?_;rintro e w4 ⟨ra,rn,rc,sa,sn,sc,rfl,hp⟩;obtain⟨r0,r1,r2,r3,rf⟩:=g_cells (b:=w.heap.size+1) (((F2.out.trans hp.out.1).block _ (zG HB.out.2).1 (fun h=>h)).trans HB.out.2)))
 refine bodyPost_ret (v:=.agg #[.int .i64 1,.int .i64 dim,.slice ra rn rc,.slice sa sn sc]) (by simp[results,Tryz.f26,go_sem,r0,r1,r2,r3]) rfl (TrPost.up (F0.out.trans F2.out) hp.out (fun b e=>?_) (fr4 w4 (w.heap.size+1) _ _ _ _))
 have:=(zG HB.out.2).1
 have:=F2.out.size
 omega
theorem plain26_2{dim:Nat}(hd:dim≤3){s:Sh}{P:Nat→Prop}{w:World}{h:Nat}(hg:GmE 2 (kId 2) dim s P w h):
  Calls Tryz.prog 26 #[.agg #[.int .i64 2,.iface 211 (.pointer (some ⟨h,0,none⟩))]] w (TrPost 3 2 dim (toG 2 dim s) w):=by
 obtain⟨_,cs,hb,hE⟩:=hg
 cases s with
 | two _=>exact hE.elim
 | three _=>exact hE.elim
 | one xs =>
 obtain⟨g,o,n,c,rfl,hE⟩:=hE
 have C54:=zH ac54
 have CA:Hid (∀w1,ZF w w1→Calls Tryz.prog 58 #[.agg #[.int .i64 2,.iface 211 (.pointer (some ⟨h,0,none⟩))]] w1 fun e w'=>e=.returned (.agg #[.int .u8 dim,.slice (some ⟨g,o,none⟩) n c])∧ZF w1 w'):=fun w1 f=>by
  exact (ac58 dim g o n c h w1 (f.cell (by rw[zC hb];rfl) (fun h=>h)) (f.cell (by rw[zC hb];rfl) (fun h=>h))).mono (fun e w' h=>⟨h.1,by rw[h.2];exact (Fr.refl _ _).alloc _ |>.alloc _ |>.alloc _⟩)
 have CP:Hid (∀w1,ZF w w1→Calls Tryz.prog 57 #[(.agg #[.int .u8 dim,.slice (some ⟨g,o,none⟩) n c])] w1 (TrPost 3 2 dim (toG 2 dim (Sh.one xs)) w1)):=fun w1 f=>by
  exact (plain57 dim hd g o n c (xs.map flp) w1 hE.1 hE.2.2.2.2.1 hE.2.2.2.1 (fun j u hu=>f.cell (hE.2.2.2.2.2.2 j u hu) (fun h=>h))).mono (fun e w' h=>TrPost.le h (by decide))
 obtain⟨g,hgg⟩:∃g,g=toG 2 dim (Sh.one xs):=⟨_,rfl⟩
 rw[←hgg] at CP ⊢
 clear hgg hE hb
 go_enter Tryz.func26,Tryz.ntmps26
 go_upto_region 1 with fail
 have b:=two_allocs w (.cells #[.int .i64 2,.iface 211 (.pointer (some ⟨h,0,none⟩))] 56) (.cells #[.int .i64 0,.int .i64 0,.slice none 0 0,.slice none 0 0] 27)
 obtain⟨w0,hw0⟩:∃w0,w0=(w.alloc (.cells #[.int .i64 2,.iface 211 (.pointer (some ⟨h,0,none⟩))] 56)).alloc (.cells #[.int .i64 0,.int .i64 0,.slice none 0 0,.slice none 0 0] 27):=⟨_,rfl⟩
 rw[←hw0] at b ⊢
 have F0:Hid (ZF w w0):=by show Fr _ _ _;rw[hw0];exact ((Fr.refl _ w).alloc _).alloc _
 have HB:=zH b
 clear hw0 b
 have q0:w0.cell? ⟨w.heap.size,0,none⟩=some (.int .i64 2):=by rw[zC HB.out.1];rfl
 have q1:w0.cell? ⟨w.heap.size,1,none⟩=some (.iface 211 (.pointer (some ⟨h,0,none⟩))):=by rw[zC HB.out.1];rfl
 go_upto_region 2 with (go_at_call 54;refine (C54.out _ _ _).mono ?_;rintro e w1 ⟨rfl,hw1⟩;have F1:Hid (ZF w0 w1):=(by show Fr _ _ _;rw[hw1];exact (Fr.refl _ _).alloc _);clear hw1)
 have q0':=F1.out.cell q0 (fun h=>h)
 have q1':=F1.out.cell q1 (fun h=>h)
 have C1:=zH (CA.out w1 (F0.out.trans F1.out))
 have r0:=(F1.out.block _ (zG HB.out.2).1 (fun h=>h)).trans HB.out.2
 have R1:=zH r0
 clear q0 q1 r0
 go_wp2_with (first|(go_at_call 58;refine C1.out.mono ?_;rintro e w2 ⟨rfl,f2⟩;have F2:=zH (F1.out.trans f2);clear f2)|(go_at_call 57;refine (CP.out w2 (F0.out.trans F2.out)).mono ?_;rintro e w4 ⟨ra,rn,rc,sa,sn,sc,rfl,hp⟩;obtain⟨r0,r1,r2,r3,rf⟩:=g_cells (b:=w.heap.size+1) (((F2.out.trans hp.out.1).block _ (zG HB.out.2).1 (fun h=>h)).trans HB.out.2)))
 refine bodyPost_ret (v:=.agg #[.int .i64 2,.int .i64 dim,.slice ra rn rc,.slice sa sn sc]) (by simp[results,Tryz.f26,go_sem,r0,r1,r2,r3]) rfl (TrPost.up (F0.out.trans F2.out) hp.out (fun b e=>?_) (fr4 w4 (w.heap.size+1) _ _ _ _))
 have:=(zG HB.out.2).1
 have:=F2.out.size
 omega
theorem plain26_3{dim:Nat}(hd:dim≤3){s:Sh}{P:Nat→Prop}{w:World}{h:Nat}(hg:GmE 3 (kId 3) dim s P w h):
  Calls Tryz.prog 26 #[.agg #[.int .i64 3,.iface 213 (.pointer (some ⟨h,0,none⟩))]] w (TrPost 3 3 dim (toG 3 dim s) w):=by
 obtain⟨_,cs,hb,hE⟩:=hg
 cases s with
 | one _=>exact hE.elim
 | three _=>exact hE.elim
 | two xs =>
 obtain⟨g,o,n,c,rfl,hE⟩:=hE
 have C54:=zH ac54
 have CA:Hid (∀w1,ZF w w1→Calls Tryz.prog 60 #[.agg #[.int .i64 3,.iface 213 (.pointer (some ⟨h,0,none⟩))]] w1 fun e w'=>e=.returned (.agg #[.slice (some ⟨g,o,none⟩) n c,.int .u8 dim])∧ZF w1 w'):=fun w1 f=>by
  exact (ac60 dim g o n c h w1 (f.cell (by rw[zC hb];rfl) (fun h=>h)) (f.cell (by rw[zC hb];rfl) (fun h=>h))).mono (fun e w' h=>⟨h.1,by rw[h.2];exact (Fr.refl _ _).alloc _ |>.alloc _ |>.alloc _⟩)
 have CP:Hid (∀w1,ZF w w1→Calls Tryz.prog 59 #[(.agg #[.slice (some ⟨g,o,none⟩) n c,.int .u8 dim])] w1 (TrPost 3 3 dim (toG 3 dim (Sh.two xs)) w1)):=fun w1 f=>by
  have h1:=plain59 hd (hE.2.2.2.kept (LnE.kp dim) (fun b _ hl=>f.block b hl (fun h=>h))) hE.1 hE.2.2.1
  refine h1.mono (fun e w' h=>?_)
  have h2:=TrPost.le (D':=3) h (by decide)
  have e2:toG 3 dim (.two xs)=G.mk 3 dim [] (xs.map (lf 2 dim)):=wh_ne (fun h0=>by have h1:=hE.1;have h2:=hE.2.1;rw[List.length_map] at h0 h1;omega)
  rw[e2,←map_lf]
  exact h2
 obtain⟨g,hgg⟩:∃g,g=toG 3 dim (Sh.two xs):=⟨_,rfl⟩
 rw[←hgg] at CP ⊢
 clear hgg hE hb
 go_enter Tryz.func26,Tryz.ntmps26
 go_upto_region 1 with fail
 have b:=two_allocs w (.cells #[.int .i64 3,.iface 213 (.pointer (some ⟨h,0,none⟩))] 56) (.cells #[.int .i64 0,.int .i64 0,.slice none 0 0,.slice none 0 0] 27)
 obtain⟨w0,hw0⟩:∃w0,w0=(w.alloc (.cells #[.int .i64 3,.iface 213 (.pointer (some ⟨h,0,none⟩))] 56)).alloc (.cells #[.int .i64 0,.int .i64 0,.slice none 0 0,.slice none 0 0] 27):=⟨_,rfl⟩
 rw[←hw0] at b ⊢
 have F0:Hid (ZF w w0):=by show Fr _ _ _;rw[hw0];exact ((Fr.refl _ w).alloc _).alloc _
 have HB:=zH b
 clear hw0 b
 have q0:w0.cell? ⟨w.heap.size,0,none⟩=some (.int .i64 3):=by rw[zC HB.out.1];rfl
 have q1:w0.cell? ⟨w.heap.size,1,none⟩=some (.iface 213 (.pointer (some ⟨h,0,none⟩))):=by rw[zC HB.out.1];rfl
 go_upto_region 2 with (go_at_call 54;refine (C54.out _ _ _).mono ?_;rintro e w1 ⟨rfl,hw1⟩;have F1:Hid (ZF w0 w1):=(by show Fr _ _ _;rw[hw1];exact (Fr.refl _ _).alloc _);clear hw1)
 have q0':=F1.out.cell q0 (fun h=>h)
 have q1':=F1.out.cell q1 (fun h=>h)
 have C1:=zH (CA.out w1 (F0.out.trans F1.out))
 have r0:=(F1.out.block _ (zG HB.out.2).1 (fun h=>h)).trans HB.out.2
 have R1:=zH r0
 clear q0 q1 r0
 go_wp2_with (first|(go_at_call 60;refine C1.out.mono ?_;rintro e w2 ⟨rfl,f2⟩;have F2:=zH (F1.out.trans f2);clear f2)|(go_at_call 59;refine (CP.out w2 (F0.out.trans F2.out)).mono ?_;rintro e w4 ⟨ra,rn,rc,sa,sn,sc,rfl,hp⟩;obtain⟨r0,r1,r2,r3,rf⟩:=g_cells (b:=w.heap.size+1) (((F2.out.trans hp.out.1).block _ (zG HB.out.2).1 (fun h=>h)).trans HB.out.2)))
 refine bodyPost_ret (v:=.agg #[.int .i64 3,.int .i64 dim,.slice ra rn rc,.slice sa sn sc]) (by simp[results,Tryz.f26,go_sem,r0,r1,r2,r3]) rfl (TrPost.up (F0.out.trans F2.out) hp.out (fun b e=>?_) (fr4 w4 (w.heap.size+1) _ _ _ _))
 have:=(zG HB.out.2).1
 have:=F2.out.size
 omega
theorem plain26_4{dim:Nat}(hd:dim≤3){s:Sh}{P:Nat→Prop}{w:World}{h:Nat}(hg:GmE 4 (kId 4) dim s P w h):
  Calls Tryz.prog 26 #[.agg #[.int .i64 4,.iface 215 (.pointer (some ⟨h,0,none⟩))]] w (TrPost 3 4 dim (toG 4 dim s) w):=by
 obtain⟨_,cs,hb,hE⟩:=hg
 cases s with
 | one _=>exact hE.elim
 | three _=>exact hE.elim
 | two xs =>
 obtain⟨g,o,n,c,rfl,hE⟩:=hE
 have C54:=zH ac54
 have CA:Hid (∀w1,ZF w w1→Calls Tryz.prog 62 #[.agg #[.int .i64 4,.iface 215 (.pointer (some ⟨h,0,none⟩))]] w1 fun e w'=>e=.returned (.agg #[.slice (some ⟨g,o,none⟩) n c,.int .u8 dim])∧ZF w1 w'):=fun w1 f=>by
  exact (ac62 dim g o n c h w1 (f.cell (by rw[zC hb];rfl) (fun h=>h)) (f.cell (by rw[zC hb];rfl) (fun h=>h))).mono (fun e w' h=>⟨h.1,by rw[h.2];exact (Fr.refl _ _).alloc _ |>.alloc _ |>.alloc _⟩)
 have CP:Hid (∀w1,ZF w w1→Calls Tryz.prog 61 #[(.agg #[.slice (some ⟨g,o,none⟩) n c,.int .u8 dim])] w1 (TrPost 3 4 dim (toG 4 dim (Sh.two xs)) w1)):=fun w1 f=>by
  have h1:=plain61 hd (hE.2.2.2.kept (PtE.kp dim) (fun b _ hl=>f.block b hl (fun h=>h))) hE.1 hE.2.2.1
  refine h1.mono (fun e w' h=>?_)
  have h2:=TrPost.le (D':=3) h (by decide)
  have e2:toG 4 dim (.two xs)=G.mk 4 dim [] (xs.map (lf 1 dim)):=wh_ne (fun h0=>by have h1:=hE.1;have h2:=hE.2.1;rw[List.length_map] at h0 h1;omega)
  rw[e2,←map_lf]
  exact h2
 obtain⟨g,hgg⟩:∃g,g=toG 4 dim (Sh.two xs):=⟨_,rfl⟩
 rw[←hgg] at CP ⊢
 clear hgg hE hb
 go_enter Tryz.func26,Tryz.ntmps26
 go_upto_region 1 with fail
 have b:=two_allocs w (.cells #[.int .i64 4,.iface 215 (.pointer (some ⟨h,0,none⟩))] 56) (.cells #[.int .i64 0,.int .i64 0,.slice none 0 0,.slice none 0 0] 27)
 obtain⟨w0,hw0⟩:∃w0,w0=(w.alloc (.cells #[.int .i64 4,.iface 215 (.pointer (some ⟨h,0,none⟩))] 56)).alloc (.cells #[.int .i64 0,.int .i64 0,.slice none 0 0,.slice none 0 0] 27):=⟨_,rfl⟩
 rw[←hw0] at b ⊢
 have F0:Hid (ZF w w0):=by show Fr _ _ _;rw[hw0];exact ((Fr.refl _ w).alloc _).alloc _
 have HB:=zH b
 clear hw0 b
 have q0:w0.cell? ⟨w.heap.size,0,none⟩=some (.int .i64 4):=by rw[zC HB.out.1];rfl
 have q1:w0.cell? ⟨w.heap.size,1,none⟩=some (.iface 215 (.pointer (some ⟨h,0,none⟩))):=by rw[zC HB.out.1];rfl
 go_upto_region 2 with (go_at_call 54;refine (C54.out _ _ _).mono ?_;rintro e w1 ⟨rfl,hw1⟩;have F1:Hid (ZF w0 w1):=(by show Fr _ _ _;rw[hw1];exact (Fr.refl _ _).alloc _);clear hw1)
 have q0':=F1.out.cell q0 (fun h=>h)
 have q1':=F1.out.cell q1 (fun h=>h)
 have C1:=zH (CA.out w1 (F0.out.trans F1.out))
 have r0:=(F1.out.block _ (zG HB.out.2).1 (fun h=>h)).trans HB.out.2
 have R1:=zH r0
 clear q0 q1 r0
 go_wp2_with (first|(go_at_call 62;refine C1.out.mono ?_;rintro e w2 ⟨rfl,f2⟩;have F2:=zH (F1.out.trans f2);clear f2)|(go_at_call 61;refine (CP.out w2 (F0.out.trans F2.out)).mono ?_;rintro e w4 ⟨ra,rn,rc,sa,sn,sc,rfl,hp⟩;obtain⟨r0,r1,r2,r3,rf⟩:=g_cells (b:=w.heap.size+1) (((F2.out.trans hp.out.1).block _ (zG HB.out.2).1 (fun h=>h)).trans HB.out.2)))
 refine bodyPost_ret (v:=.agg #[.int .i64 4,.int .i64 dim,.slice ra rn rc,.slice sa sn sc]) (by simp[results,Tryz.f26,go_sem,r0,r1,r2,r3]) rfl (TrPost.up (F0.out.trans F2.out) hp.out (fun b e=>?_) (fr4 w4 (w.heap.size+1) _ _ _ _))
 have:=(zG HB.out.2).1
 have:=F2.out.size
 omega
theorem plain26_5{dim:Nat}(hd:dim≤3){s:Sh}{P:Nat→Prop}{w:World}{h:Nat}(hg:GmE 5 (kId 5) dim s P w h):
  Calls Tryz.prog 26 #[.agg #[.int .i64 5,.iface 217 (.pointer (some ⟨h,0,none⟩))]] w (TrPost 3 5 dim (toG 5 dim s) w):=by
 obtain⟨_,cs,hb,hE⟩:=hg
 cases s with
 | one _=>exact hE.elim
 | three _=>exact hE.elim
 | two xs =>
 obtain⟨g,o,n,c,rfl,hE⟩:=hE
 have C54:=zH ac54
 have CA:Hid (∀w1,ZF w w1→Calls Tryz.prog 64 #[.agg #[.int .i64 5,.iface 217 (.pointer (some ⟨h,0,none⟩))]] w1 fun e w'=>e=.returned (.agg #[.slice (some ⟨g,o,none⟩) n c,.int .u8 dim])∧ZF w1 w'):=fun w1 f=>by
  exact (ac64 dim g o n c h w1 (f.cell (by rw[zC hb];rfl) (fun h=>h)) (f.cell (by rw[zC hb];rfl) (fun h=>h))).mono (fun e w' h=>⟨h.1,by rw[h.2];exact (Fr.refl _ _).alloc _ |>.alloc _ |>.alloc _⟩)
 have CP:Hid (∀w1,ZF w w1→Calls Tryz.prog 63 #[(.agg #[.slice (some ⟨g,o,none⟩) n c,.int .u8 dim])] w1 (TrPost 3 5 dim (toG 5 dim (Sh.two xs)) w1)):=fun w1 f=>by
  have h1:=plain63 hd (hE.2.2.2.kept (LnE.kp dim) (fun b _ hl=>f.block b hl (fun h=>h))) hE.1 hE.2.2.1
  refine h1.mono (fun e w' h=>?_)
  have h2:=TrPost.le (D':=3) h (by decide)
  have e2:toG 5 dim (.two xs)=G.mk 5 dim [] (xs.map (lf 2 dim)):=wh_ne (fun h0=>by have h1:=hE.1;have h2:=hE.2.1;rw[List.length_map] at h0 h1;omega)
  rw[e2,←map_lf]
  exact h2
 obtain⟨g,hgg⟩:∃g,g=toG 5 dim (Sh.two xs):=⟨_,rfl⟩
 rw[←hgg] at CP ⊢
 clear hgg hE hb
 go_enter Tryz.func26,Tryz.ntmps26
 go_upto_region 1 with fail
 have b:=two_allocs w (.cells #[.int .i64 5,.iface 217 (.pointer (some ⟨h,0,none⟩))] 56) (.cells #[.int .i64 0,.int .i64 0,.slice none 0 0,.slice none 0 0] 27)
 obtain⟨w0,hw0⟩:∃w0,w0=(w.alloc (.cells #[.int .i64 5,.iface 217 (.pointer (some ⟨h,0,none⟩))] 56)).alloc (.cells #[.int .i64 0,.int .i64 0,.slice none 0 0,.slice none 0 0] 27):=⟨_,rfl⟩
 rw[←hw0] at b ⊢
 have F0:Hid (ZF w w0):=by show Fr _ _ _;rw[hw0];exact ((Fr.refl _ w).alloc _).alloc _
 have HB:=zH b
 clear hw0 b
 have q0:w0.cell? ⟨w.heap.size,0,none⟩=some (.int .i64 5):=by rw[zC HB.out.1];rfl
 have q1:w0.cell? ⟨w.heap.size,1,none⟩=some (.iface 217 (.pointer (some ⟨h,0,none⟩))):=by rw[zC HB.out.1];rfl
 go_upto_region 2 with (go_at_call 54;refine (C54.out _ _ _).mono ?_;rintro e w1 ⟨rfl,hw1⟩;have F1:Hid (ZF w0 w1):=(by show Fr _ _ _;rw[hw1];exact (Fr.refl _ _).alloc _);clear hw1)
 have q0':=F1.out.cell q0 (fun h=>h)
 have q1':=F1.out.cell q1 (fun h=>h)
 have C1:=zH (CA.out w1 (F0.out.trans F1.out))
 have r0:=(F1.out.block _ (zG HB.out.2).1 (fun h=>h)).trans HB.out.2
 have R1:=zH r0
 clear q0 q1 r0
 go_wp2_with (first|(go_at_call 64;refine C1.out.mono ?_;rintro e w2 ⟨rfl,f2⟩;have F2:=zH (F1.out.trans f2);clear f2)|(go_at_call 63;refine (CP.out w2 (F0.out.trans F2.out)).mono ?_;rintro e w4 ⟨ra,rn,rc,sa,sn,sc,rfl,hp⟩;obtain⟨r0,r1,r2,r3,rf⟩:=g_cells (b:=w.heap.size+1) (((F2.out.trans hp.out.1).block _ (zG HB.out.2).1 (fun h=>h)).trans HB.out.2)))
 refine bodyPost_ret (v:=.agg #[.int .i64 5,.int .i64 dim,.slice ra rn rc,.slice sa sn sc]) (by simp[results,Tryz.f26,go_sem,r0,r1,r2,r3]) rfl (TrPost.up (F0.out.trans F2.out) hp.out (fun b e=>?_) (fr4 w4 (w.heap.size+1) _ _ _ _))
 have:=(zG HB.out.2).1
 have:=F2.out.size
 omega
theorem plain26_6{dim:Nat}(hd:dim≤3){s:Sh}{P:Nat→Prop}{w:World}{h:Nat}(hg:GmE 6 (kId 6) dim s P w h):
  Calls Tryz.prog 26 #[.agg #[.int .i64 6,.iface 219 (.pointer (some ⟨h,0,none⟩))]] w (TrPost 3 6 dim (toG 6 dim s) w):=by
 obtain⟨_,cs,hb,hE⟩:=hg
 cases s with
 | one _=>exact hE.elim
 | two _=>exact hE.elim
 | three xs =>
 obtain⟨g,o,n,c,rfl,hE⟩:=hE
 have C54:=zH ac54
 have CA:Hid (∀w1,ZF w w1→Calls Tryz.prog 66 #[.agg #[.int .i64 6,.iface 219 (.pointer (some ⟨h,0,none⟩))]] w1 fun e w'=>e=.returned (.agg #[.slice (some ⟨g,o,none⟩) n c,.int .u8 dim])∧ZF w1 w'):=fun w1 f=>by
  exact (ac66 dim g o n c h w1 (f.cell (by rw[zC hb];rfl) (fun h=>h)) (f.cell (by rw[zC hb];rfl) (fun h=>h))).mono (fun e w' h=>⟨h.1,by rw[h.2];exact (Fr.refl _ _).alloc _ |>.alloc _ |>.alloc _⟩)
 have CP:Hid (∀w1,ZF w w1→Calls Tryz.prog 65 #[(.agg #[.slice (some ⟨g,o,none⟩) n c,.int .u8 dim])] w1 (TrPost 3 6 dim (toG 6 dim (Sh.three xs)) w1)):=fun w1 f=>by
  have h1:=plain65 hd (hE.2.2.2.kept (RwE.kp (LnE.kp dim) (by decide) dim) (fun b _ hl=>f.block b hl (fun h=>h))) hE.1 hE.2.2.1
  refine h1.mono (fun e w' h=>?_)
  have h2:=TrPost.le (D':=3) h (by decide)
  have hne:∀x∈xs,x.length≠0:=fun x hx=>by
   obtain⟨i,hi,rfl⟩:=List.mem_iff_getElem.1 hx
   obtain⟨_,_,n2,_,e1,e2,_⟩:=rw_at hE.2.2.2 (i:=i) (by simpa using hi)
   simp at e1
   omega
  have e2:toG 6 dim (.three xs)=G.mk 6 dim [] (xs.map fun x=>G.mk 3 dim [] (x.map (lf 2 dim))):=by
   show wh 6 dim _=_
   rw[wh_ne (fun h0=>by have h1:=hE.1;have h2:=hE.2.1;rw[List.length_map] at h0 h1;omega)]
   congr 1
   exact List.map_congr_left (fun x hx=>wh_ne (by simpa using hne x hx))
  have e3:(xs.map (·.map (·.map flp))).map (fun x=>G.mk 3 dim [] (x.map fun y=>G.mk 2 dim y []))=xs.map fun x=>G.mk 3 dim [] (x.map (lf 2 dim)):=by
   rw[List.map_map]
   refine List.map_congr_left (fun x _=>?_)
   show G.mk 3 dim [] _=_
   rw[←map_lf]
   rfl
  rw[e3] at h2
  rw[e2]
  exact h2
 obtain⟨g,hgg⟩:∃g,g=toG 6 dim (Sh.three xs):=⟨_,rfl⟩
 rw[←hgg] at CP ⊢
 clear hgg hE hb
 go_enter Tryz.func26,Tryz.ntmps26
 go_upto_region 1 with fail
 have b:=two_allocs w (.cells #[.int .i64 6,.iface 219 (.pointer (some ⟨h,0,none⟩))] 56) (.cells #[.int .i64 0,.int .i64 0,.slice none 0 0,.slice none 0 0] 27)
 obtain⟨w0,hw0⟩:∃w0,w0=(w.alloc (.cells #[.int .i64 6,.iface 219 (.pointer (some ⟨h,0,none⟩))] 56)).alloc (.cells #[.int .i64 0,.int .i64 0,.slice none 0 0,.slice none 0 0] 27):=⟨_,rfl⟩
 rw[←hw0] at b ⊢
 have F0:Hid (ZF w w0):=by show Fr _ _ _;rw[hw0];exact ((Fr.refl _ w).alloc _).alloc _
 have HB:=zH b
 clear hw0 b
 have q0:w0.cell? ⟨w.heap.size,0,none⟩=some (.int .i64 6):=by rw[zC HB.out.1];rfl
 have q1:w0.cell? ⟨w.heap.size,1,none⟩=some (.iface 219 (.pointer (some ⟨h,0,none⟩))):=by rw[zC HB.out.1];rfl
 go_upto_region 2 with (go_at_call 54;refine (C54.out _ _ _).mono ?_;rintro e w1 ⟨rfl,hw1⟩;have F1:Hid (ZF w0 w1):=(by show Fr _ _ _;rw[hw1];exact (Fr.refl _ _).alloc _);clear hw1)
 have q0':=F1.out.cell q0 (fun h=>h)
 have q1':=F1.out.cell q1 (fun h=>h)
 have C1:=zH (CA.out w1 (F0.out.trans F1.out))
 have r0:=(F1.out.block _ (zG HB.out.2).1 (fun h=>h)).trans HB.out.2
 have R1:=zH r0
 clear q0 q1 r0
 go_wp2_with (first|(go_at_call 66;refine C1.out.mono ?_;rintro e w2 ⟨rfl,f2⟩;have F2:=zH (F1.out.trans f2);clear f2)|(go_at_call 65;refine (CP.out w2 (F0.out.trans F2.out)).mono ?_;rintro e w4 ⟨ra,rn,rc,sa,sn,sc,rfl,hp⟩;obtain⟨r0,r1,r2,r3,rf⟩:=g_cells (b:=w.heap.size+1) (((F2.out.trans hp.out.1).block _ (zG HB.out.2).1 (fun h=>h)).trans HB.out.2)))
 refine bodyPost_ret (v:=.agg #[.int .i64 6,.int .i64 dim,.slice ra rn rc,.slice sa sn sc]) (by simp[results,Tryz.f26,go_sem,r0,r1,r2,r3]) rfl (TrPost.up (F0.out.trans F2.out) hp.out (fun b e=>?_) (fr4 w4 (w.heap.size+1) _ _ _ _))
 have:=(zG HB.out.2).1
 have:=F2.out.size
 omega
theorem plain26{k dim:Nat}(hk:1≤k∧k≤6)(hd:dim≤3){s:Sh}{P:Nat→Prop}{w:World}{h:Nat}(hg:GmE k (kId k) dim s P w h):
  Calls Tryz.prog 26 #[.agg #[.int .i64 k,.iface (kTy k) (.pointer (some ⟨h,0,none⟩))]] w (TrPost 3 k dim (toG k dim s) w):=by
 have hk6:k=1∨k=2∨k=3∨k=4∨k=5∨k=6:=by omega
 rcases hk6 with rfl|rfl|rfl|rfl|rfl|rfl
 ·exact plain26_1 hd hg
 ·exact plain26_2 hd hg
 ·exact plain26_3 hd hg
 ·exact plain26_4 hd hg
 ·exact plain26_5 hd hg
 ·exact plain26_6 hd hg
def SomeAt (g:Nat) (t:TypeId) (N:Nat) (w:World):Prop:=∃C:Array Value,C.size=N∧w.heap[g]?=some (.cells C t (0,0))
theorem SomeAt.keep{g N:Nat}{t:TypeId}{R:Nat→Prop}{w w':World}(h:SomeAt g t N w)(f:Fr R w w')(hn:¬R g):SomeAt g t N w':=by
 obtain⟨C,h1,h2⟩:=h
 exact⟨C,h1,(f.block g (zG h2).1 hn).trans h2⟩
theorem SomeAt.set{g N:Nat}{t:TypeId}{w:World}(h:SomeAt g t N w)(i:Nat)(v:Value):SomeAt g t N (w.setCell ⟨g,i,none⟩ v):=by
 obtain⟨C,h1,h2⟩:=h
 exact⟨C.setIfInBounds i v,by simp[h1],Lib.heap_setCell_same (i:=i) h2 v⟩
theorem SomeAt.cell{g N:Nat}{t:TypeId}{w:World}(h:SomeAt g t N w)(i:Nat)(hi:i < N):∃v,w.cell? ⟨g,i,none⟩=some v:=by
 obtain⟨C,h1,h2⟩:=h
 exact⟨C[i]'(by omega),by rw[zC h2];simp[h1,hi]⟩
theorem SomeAt.fz{g N:Nat}{t:TypeId}{w:World}(h:SomeAt g t N w)(i:Nat):w.frozen? ⟨g,i,none⟩=false:=zF h.choose_spec.2 i
def SlPost (w:World) (e:Ending) (w':World):Prop:=∃(a:Option Addr) (n c:Nat),e=.returned (.slice a n c)∧Hid (ZF w w')
theorem make25(n:Nat)(h:n≤1000000000):∀w,(Instr.makeSlice 25 (.int .i64 n) (.int .i64 n)).run Tryz.prog w=.ok (.slice (some ⟨w.heap.size,0,none⟩) n n) (w.alloc (.cells (madeCells #[.int .i64 0,.int .i64 0,.slice none 0 0,.slice none 0 0] (n*4)) 27)):=by
 obtain⟨j0,hj0,jz0,jz1,jz2⟩:=info_parts info27
 intro w
 have:=run_make (P:=Tryz.prog) w 25 27 j0 _ Tryz.underlying25 hj0 jz0 .i64 .i64 n n (by omega) (Int.le_refl _) (by rw[jz2];omega) (by omega)
 rw[this,jz1,Int.toNat_natCast]
 rfl
theorem points27_0(w:World):Calls Tryz.prog 27 #[.slice none 0 0] w (SlPost w):=by
 have hmk:∀w,(Instr.makeSlice 25 (.int .i64 0) (.int .i64 0)).run Tryz.prog w=.ok (.slice (some ⟨w.heap.size,0,none⟩) 0 0) (w.alloc (.cells (madeCells #[.int .i64 0,.int .i64 0,.slice none 0 0,.slice none 0 0] (0*4)) 27)):=make25 0 (by decide)
 go_enter Tryz.func27,Tryz.ntmps27
 go_wp2_with fail
 go_loopw [11] (fun iv wr=>iv=.int .i64 0∧Hid (ZF w wr)) (fun _ _=>0)
 case atStart=>exact⟨rfl,(Fr.refl _ w).alloc _⟩
 case round =>
  obtain⟨rfl,hrel⟩:=hrel
  go_wp2_with fail
  go_ret
  exact⟨_,_,_,rfl,hrel⟩
theorem points27_2{dim:Nat}(hd:dim≤3){w:World}{g x0 y0 z0 m0 x1 y1 z1 m1:Nat}(b:w.heap[g]?=some (.cells #[.float .f64 x0,.float .f64 y0,.float .f64 z0,.float .f64 m0,.int .u8 dim,.bool true,.float .f64 x1,.float .f64 y1,.float .f64 z1,.float .f64 m1,.int .u8 dim,.bool true] 115 (0,0))):Calls Tryz.prog 27 #[.slice (some ⟨g,0,none⟩) 2 2] w (SlPost w):=by
 have hsf:=st_fl
 have hmk:∀w,(Instr.makeSlice 25 (.int .i64 2) (.int .i64 2)).run Tryz.prog w=.ok (.slice (some ⟨w.heap.size,0,none⟩) 2 2) (w.alloc (.cells (madeCells #[.int .i64 0,.int .i64 0,.slice none 0 0,.slice none 0 0] (2*4)) 27)):=make25 2 (by decide)
 have S0:Hid (SomeAt w.heap.size 27 8 (w.alloc (.cells (madeCells #[.int .i64 0,.int .i64 0,.slice none 0 0,.slice none 0 0] (2*4)) 27))):=⟨_,size_madeCells _ _,zN w _⟩
 have F0:Hid (ZF w (w.alloc (.cells (madeCells #[.int .i64 0,.int .i64 0,.slice none 0 0,.slice none 0 0] (2*4)) 27))):=(Fr.refl _ w).alloc _
 have HB:=zH b
 have HG:Hid (g < w.heap.size):=(zG b).1
 have CP:Hid (∀x y z m w4,Calls Tryz.prog 55 #[.agg #[.float .f64 x,.float .f64 y,.float .f64 z,.float .f64 m,.int .u8 dim,.bool true]] w4 (TrPost 1 1 dim (G.mk 1 dim (numsOf dim (x,y,z,m)) []) w4)):=fun x y z m w4=>plain55 x y z m dim hd w4
 clear b
 go_enter Tryz.func27,Tryz.ntmps27
 go_wp2_with fail
 go_loopw [11] (fun iv wr=>∃i:Nat,iv=.int .i64 i∧i≤2∧Hid (ZF w wr∧SomeAt w.heap.size 27 8 wr)) (fun iv _=>2 - (intOf iv).toNat)
 case atStart=>exact⟨0,rfl,by decide,F0.out,S0.out⟩
 case round =>
  obtain⟨i,rfl,hi,hrel⟩:=hrel
  have bb:=(hrel.out.1.block g HG.out (fun h=>h)).trans HB.out
  have hi3:i=0∨i=1∨i=2:=by omega
  rcases hi3 with rfl|rfl|rfl
  ·have q0:wr.cell? ⟨g,0,none⟩=some (.float .f64 x0):=by rw[zC bb];rfl
   have q1:wr.cell? ⟨g,1,none⟩=some (.float .f64 y0):=by rw[zC bb];rfl
   have q2:wr.cell? ⟨g,2,none⟩=some (.float .f64 z0):=by rw[zC bb];rfl
   have q3:wr.cell? ⟨g,3,none⟩=some (.float .f64 m0):=by rw[zC bb];rfl
   have q4:wr.cell? ⟨g,4,none⟩=some (.int .u8 dim):=by rw[zC bb];rfl
   have q5:wr.cell? ⟨g,5,none⟩=some (.bool true):=by rw[zC bb];rfl
   have HK:Hid (∀w4,ZF wr w4→SomeAt w.heap.size 27 8 w4):=fun w4 f=>hrel.out.2.keep f (fun h=>h)
   have F1:=zH hrel.out.1
   clear bb hrel
   go_wp2_with (go_at_call 55;refine (CP.out _ _ _ _ _).mono ?_;rintro e w4 ⟨ra,rn,rc,sa,sn,sc,rfl,hp⟩;have HS:=zH (HK.out w4 (((Fr.refl _ wr).alloc _).trans hp.out.1));have F4:=zH ((F1.out.alloc _).trans hp.out.1);clear hp;obtain⟨v0,c0⟩:=HS.out.cell 0 (by decide);obtain⟨v1,c1⟩:=HS.out.cell 1 (by decide);obtain⟨v2,c2⟩:=HS.out.cell 2 (by decide);obtain⟨v3,c3⟩:=HS.out.cell 3 (by decide);have cf:=HS.out.fz)
   exact⟨⟨1,rfl,by decide,F4.out.transNew (((((Fr.refl (Eq w.heap.size) w4).setR _).setR _).setR _).setR _) (fun b e=>.inl (by omega)),(((HS.out.set 0 _).set 1 _).set 2 _).set 3 _⟩,by simp[intOf]⟩
  ·have q0:wr.cell? ⟨g,6,none⟩=some (.float .f64 x1):=by rw[zC bb];rfl
   have q1:wr.cell? ⟨g,7,none⟩=some (.float .f64 y1):=by rw[zC bb];rfl
   have q2:wr.cell? ⟨g,8,none⟩=some (.float .f64 z1):=by rw[zC bb];rfl
   have q3:wr.cell? ⟨g,9,none⟩=some (.float .f64 m1):=by rw[zC bb];rfl
   have q4:wr.cell? ⟨g,10,none⟩=some (.int .u8 dim):=by rw[zC bb];rfl
   have q5:wr.cell? ⟨g,11,none⟩=some (.bool true):=by rw[zC bb];rfl
   have HK:Hid (∀w4,ZF wr w4→SomeAt w.heap.size 27 8 w4):=fun w4 f=>hrel.out.2.keep f (fun h=>h)
   have F1:=zH hrel.out.1
   clear bb hrel
   go_wp2_with (go_at_call 55;refine (CP.out _ _ _ _ _).mono ?_;rintro e w4 ⟨ra,rn,rc,sa,sn,sc,rfl,hp⟩;have HS:=zH (HK.out w4 (((Fr.refl _ wr).alloc _).trans hp.out.1));have F4:=zH ((F1.out.alloc _).trans hp.out.1);clear hp;obtain⟨v0,c0⟩:=HS.out.cell 4 (by decide);obtain⟨v1,c1⟩:=HS.out.cell 5 (by decide);obtain⟨v2,c2⟩:=HS.out.cell 6 (by decide);obtain⟨v3,c3⟩:=HS.out.cell 7 (by decide);have cf:=HS.out.fz)
   exact⟨⟨2,rfl,by decide,F4.out.transNew (((((Fr.refl (Eq w.heap.size) w4).setR _).setR _).setR _).setR _) (fun b e=>.inl (by omega)),(((HS.out.set 4 _).set 5 _).set 6 _).set 7 _⟩,by simp[intOf]⟩
  ·go_wp2_with fail
   go_ret
   exact⟨_,_,_,rfl,hrel.out.1⟩
theorem points27{dim:Nat}(hd:dim≤3){P:Nat→Prop}{w:World}{v:Value}(h:CornersAt dim P w v):Calls Tryz.prog 27 #[v] w (SlPost w):=by
 rcases h with rfl|⟨g,x0,y0,z0,m0,x1,y1,z1,m1,rfl,_,h⟩
 ·exact points27_0 w
 ·exact points27_2 hd h
open Go.RowKit
def RdPost (k dim:Nat) (s:Sh) (w:World) (e:Ending) (w':World):Prop :=
 ∃(na:Option Addr) (n nc:Nat) (ka:Option Addr) (m kc:Nat) (a1:Option Addr) (n1 c1:Nat) (a2:Option Addr) (n2 c2:Nat),e=.returned (.tuple #[.agg #[.int .i64 k,.int .i64 dim,.slice na n nc,.slice ka m kc,.slice a1 n1 c1,.slice a2 n2 c2],.bool true])∧Hid (ZF w w'∧GAt 3 (fun b=>w.heap.size≤b) w' [.int .i64 k,.int .i64 dim,.slice na n nc,.slice ka m kc] (toG k dim s))
theorem t_cells{w1:World}{b:Nat}{v0 v1 v2 v3 v4 v5:Value}(h:w1.heap[b]?=some (.cells #[v0,v1,v2,v3,v4,v5] 30 (0,0))):w1.cell? ⟨b,0,none⟩=some v0∧w1.cell? ⟨b,1,none⟩=some v1∧w1.cell? ⟨b,2,none⟩=some v2∧w1.cell? ⟨b,3,none⟩=some v3∧w1.cell? ⟨b,4,none⟩=some v4∧w1.cell? ⟨b,5,none⟩=some v5∧∀k,w1.frozen? ⟨b,k,none⟩=false:=by
 refine⟨?_,?_,?_,?_,?_,?_,fun k=>zF h k⟩<;>(rw[zC h];rfl)
theorem read11{tb tf tc:Nat}{T:List UInt8}{w:World}(h:TxAt tb tf T w)(htw:tb < w.heap.size)(hl:T.length≤tc∧T.length≤100000000)(ht:TenTab w){k c dim mx:Nat}{xy:Int}{ps is Q:List Int}{l0 l':List UInt8}{s:Sh}(hk:1≤k∧k≤6)(hd:dim≤3)(hh:HeadP T k c dim xy ps l0)(hxy:0≤xy)(hem:(c / 16 % 2 == 1)=false)(hmx:mx≤5000)(hrf:RfOk (fun _=>0) Q)(hb:BodyP mx k (c / 4 % 2 == 1) ps Q l0 s is l')(hne:NE s):
  Calls Tryz.prog 11 #[.slice (some ⟨tb,tf,none⟩) T.length tc,.bool false] w (RdPost k dim s w):=by
 have C25:=zH nc25
 have C24:Hid (∀g0 w1,ZF w w1→Calls Tryz.prog 24 #[.slice (some ⟨tb,tf,none⟩) T.length tc,.slice (some ⟨g0,0,none⟩) 1 1] w1 (UnPost k dim s w1)):=fun g0 w1 f=>un24 (h.fr f (fun h=>h)) (Nat.lt_of_lt_of_le htw f.size) hl (ht.fr f (fun h=>h) (fun h=>h)) hk hh hxy hem hmx hrf hb hne
 obtain⟨N,hN⟩:∃N,N=T.length:=⟨_,rfl⟩
 obtain⟨ty,hty⟩:∃ty,ty=kTy k:=⟨_,rfl⟩
 obtain⟨K,hK⟩:∃K:Int,K=(k:Int):=⟨_,rfl⟩
 have HTY:=zH hty
 have HK:=zH hK
 have C26:Hid (∀(P:Nat→Prop) (w1:World) (h:Nat),GmE k (kId k) dim s P w1 h→Calls Tryz.prog 26 #[.agg #[.int .i64 K,.iface ty (.pointer (some ⟨h,0,none⟩))]] w1 (TrPost 3 K dim (toG k dim s) w1)):=fun P w1 h hg=>by
  rw[hK,hty]
  exact plain26 hk hd hg
 have C27:Hid (∀(P:Nat→Prop) (w1:World) (v:Value),CornersAt dim P w1 v→Calls Tryz.prog 27 #[v] w1 (SlPost w1)):=fun P w1 v hv=>points27 hd hv
 rw[←hN] at C24 ⊢
 clear h htw hl ht hk hh hxy hem hmx hrf hb hne hN hty hK hd
 go_enter Tryz.func11,Tryz.ntmps11
 go_upto_region 1 with fail
 have b0:=zN w (.cells #[.int .i64 0,.int .i64 0,.slice none 0 0,.slice none 0 0,.slice none 0 0,.slice none 0 0] 30)
 obtain⟨w0,hw0⟩:∃w0,w0=w.alloc (.cells #[.int .i64 0,.int .i64 0,.slice none 0 0,.slice none 0 0,.slice none 0 0,.slice none 0 0] 30):=⟨_,rfl⟩
 rw[←hw0] at b0 ⊢
 have F0:Hid (ZF w w0):=by show Fr _ _ _;rw[hw0];exact (Fr.refl _ w).alloc _
 have B0:=zH b0
 have S0:Hid (w.heap.size < w0.heap.size):=(zG b0).1
 clear b0 hw0
 go_upto_region 2 with (first|(go_at_call 25;refine (C25.out _).mono ?_;rintro e w1 ⟨g0,rfl,f1⟩;have F1:=zH (F0.out.trans f1);have F01:=zH f1;clear f1)|(go_at_call 24;refine (C24.out g0 w1 F1.out).mono ?_;rintro e w2 ⟨hh,vb,a2,n2,c2,rfl,hp⟩;rw[←HTY.out,←HK.out]))
 obtain⟨w3,hw3⟩:∃w3,w3=w2.alloc (.cells #[.int .i64 K,.iface ty (.pointer (some ⟨hh,0,none⟩))] 56):=⟨_,rfl⟩
 have b3:=zN w2 (.cells #[.int .i64 K,.iface ty (.pointer (some ⟨hh,0,none⟩))] 56)
 rw[←hw3] at b3 ⊢
 have F23:Hid (ZF w2 w3):=by show Fr _ _ _;rw[hw3];exact (Fr.refl _ w2).alloc _
 have F3:=zH ((F01.out.trans hp.out.1).trans F23.out)
 have G3:=zH (hp.out.2.1.kept (fun b _ hl=>F23.out.block b hl (fun h=>h)))
 have V3:Hid (CornersAt dim (fun b=>w1.heap.size≤b) w3 vb):=by
  rcases hp.out.2.2 with rfl|⟨g,x0,y0,z0,m0,x1,y1,z1,m1,rfl,h1,h2⟩
  ·exact .inl rfl
  ·exact .inr ⟨g,x0,y0,z0,m0,x1,y1,z1,m1,rfl,h1,(F23.out.block g (zG h2).1 (fun h=>h)).trans h2⟩
 have CG:=zH (C26.out _ _ _ G3.out)
 have CV:Hid (∀w4,ZF w3 w4→Calls Tryz.prog 27 #[vb] w4 (SlPost w4)):=fun w4 f=>by
  refine C27.out (fun b=>w1.heap.size≤b) w4 vb ?_
  rcases V3.out with rfl|⟨g,x0,y0,z0,m0,x1,y1,z1,m1,rfl,h1,h2⟩
  ·exact .inl rfl
  ·exact .inr ⟨g,x0,y0,z0,m0,x1,y1,z1,m1,rfl,h1,(f.block g (zG h2).1 (fun h=>h)).trans h2⟩
 have q0:w3.cell? ⟨w2.heap.size,0,none⟩=some (.int .i64 K):=by rw[zC b3];rfl
 have q1:w3.cell? ⟨w2.heap.size,1,none⟩=some (.iface ty (.pointer (some ⟨hh,0,none⟩))):=by rw[zC b3];rfl
 clear hw3 b3 hp F23 G3 V3 C24 C26 C27
 go_wp2_with (first|(go_at_call 26;refine CG.out.mono ?_;rintro e w4 ⟨ra,rn,rc,sa,sn,sc,rfl,hp⟩;have F4:=zH hp.out.1;have G4:=zH hp.out.2;clear hp)|(go_at_call 27;refine (CV.out w4 F4.out).mono ?_;rintro e w5 ⟨a1,n1,c1,rfl,hp⟩;have F5:=zH hp.out;clear hp;obtain⟨z0,z1,z2,z3,z4,z5,zf⟩:=t_cells ((((F3.out.trans F4.out).trans F5.out).block _ S0.out (fun h=>h)).trans B0.out)))
 refine bodyPost_ret (v:=.tuple #[.agg #[.int .i64 K,.int .i64 dim,.slice ra rn rc,.slice sa sn sc,.slice a1 n1 c1,.slice a2 n2 c2],.bool true]) (by simp[results,Tryz.f11,go_sem,z0,z1,z2,z3,z4,z5]) rfl ⟨ra,rn,rc,sa,sn,sc,a1,n1,c1,a2,n2,c2,by rw[HK.out],?_⟩
 have f6:Fr (Eq w.heap.size) w5 ((((((w5.setCell ⟨w.heap.size,0,none⟩ (.int .i64 K)).setCell ⟨w.heap.size,1,none⟩ (.int .i64 dim)).setCell ⟨w.heap.size,2,none⟩ (.slice ra rn rc)).setCell ⟨w.heap.size,3,none⟩ (.slice sa sn sc)).setCell ⟨w.heap.size,4,none⟩ (.slice a1 n1 c1)).setCell ⟨w.heap.size,5,none⟩ (.slice a2 n2 c2)):=((((((Fr.refl _ w5).setR _).setR _).setR _).setR _).setR _).setR _
 have fw:=F0.out.trans ((F3.out.trans F4.out).trans F5.out)
 have h3:=(F0.out.trans F3.out).size
 have h0:=S0.out
 have h03:=F3.out.size
 refine⟨fw.transNew f6 (fun b e=>.inl (by omega)),?_⟩
 rw[←HK.out]
 exact (GAt.kp 3).mono (P:=fun b=>w3.heap.size≤b) (fun b hb _=>Nat.le_trans h3 hb) ((GAt.kp 3).kept (fun b hb hl=>f6.block b hl (by omega)) ((GAt.kp 3).kept (fun b _ hl=>F5.out.block b hl (fun h=>h)) G4.out))
end Go.Proofs.YtnjjgbcmjnfijaaGreatDoor
