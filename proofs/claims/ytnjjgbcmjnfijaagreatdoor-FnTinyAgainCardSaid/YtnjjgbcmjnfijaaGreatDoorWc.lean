/- Plain data as a geometry of the package. No condition. -/
import Derived.Test.YtnjjgbcmjnfijaaGreatDoorWb
import Derived.Test.YtnjjgbcmjnfijaaGreatDoorRr
namespace Go.Proofs.YtnjjgbcmjnfijaaGreatDoor
set_option maxRecDepth 100000
set_option maxHeartbeats 4000000
open Go.RowKit
def GOk (k dim:Nat) (s:Sh):Prop :=
 match k,s with
 | 1,.one xs=>xs.length=wd dim
 | 2,.one xs=>0 < xs.length∧xs.length≤30000∧xs.length % wd dim=0
 | 3,.two xs=>0 < xs.length∧xs.length≤4096∧∀x∈xs,0 < x.length∧x.length≤30000∧x.length % wd dim=0
 | 4,.two xs=>0 < xs.length∧xs.length≤4096∧∀x∈xs,x.length=wd dim
 | 5,.two xs=>0 < xs.length∧xs.length≤4096∧∀x∈xs,0 < x.length∧x.length≤30000∧x.length % wd dim=0
 | 6,.three xs=>0 < xs.length∧xs.length≤4096∧∀x∈xs,0 < x.length∧x.length≤4096∧∀y∈x,0 < y.length∧y.length≤30000∧y.length % wd dim=0
 | _,_=>False
def GnPost (k dim ty:Nat) (s:Sh) (w:World) (e:Ending) (w':World):Prop :=
 ∃h:Nat,e=.returned (.agg #[.int .i64 k,.iface ty (.pointer (some ⟨h,0,none⟩))])∧Hid (ZF w w'∧GmE k (kId k) dim s (fun b=>w.heap.size≤b) w' h)
theorem map_mem{α β:Type}{f:α→β}{xs:List α}{p:β→Prop}(h:∀x∈xs,p (f x)):∀y∈xs.map f,p y:=fun y hy=>by
 obtain⟨x,hx,rfl⟩:=List.mem_map.1 hy
 exact h x hx
theorem geom29_1{dim:Nat}(hd:dim≤3){s:Sh}{P:Nat→Prop}{w:World}{na:Option Addr}{n nc:Nat}{ka:Option Addr}{m kc:Nat}(hg:GAt 3 P w [.int .i64 1,.int .i64 dim,.slice na n nc,.slice ka m kc] (toG 1 dim s))(hok:GOk 1 dim s):
  Calls Tryz.prog 29 #[.agg #[.int .i64 1,.int .i64 dim,.slice na n nc,.slice ka m kc]] w (GnPost 1 dim 208 s w):=by
 cases s with
 | two _=>exact hok.elim
 | three _=>exact hok.elim
 | one xs =>
 have hk:=gat_parts (D:=2) hg
 have CA:Hid (∀w1,ZF w w1→Calls Tryz.prog 77 #[.agg #[.int .i64 1,.int .i64 dim,.slice na n nc,.slice ka m kc]] w1 (PmPost dim (xs.map flp) w1)):=fun w1 f=>by
  have hx:(xs.map flp).length=wd dim:=by rw[List.length_map];exact hok
  have hN:=CellsAt.kept hk.2.2.2.1 (fun b _ hl=>f.block b hl (fun h=>h))
  obtain⟨b9,o9,c9,e9⟩:=nums_slice hN (by have:=wd_pos dim;omega)
  rw[←hk.2.2.1] at e9
  rw[e9] at hN ⊢
  exact point77 dim hd hN hx hk.2.2.1
 clear hk
 have CB:=zH ac78
 have bb:=two_allocs w (.cells #[.int .i64 1,.int .i64 dim,.slice na n nc,.slice ka m kc] 27) (.cells #[.int .i64 0,.nilIface] 56)
 obtain⟨w0,hw0⟩:∃w0,w0=(w.alloc (.cells #[.int .i64 1,.int .i64 dim,.slice na n nc,.slice ka m kc] 27)).alloc (.cells #[.int .i64 0,.nilIface] 56):=⟨_,rfl⟩
 rw[←hw0] at bb
 have F0:Hid (ZF w w0):=by show Fr _ _ _;rw[hw0];exact ((Fr.refl _ w).alloc _).alloc _
 have HW0:=zH hw0
 have C:=zH (CA.out w0 F0.out)
 have HR:=zH bb.2
 obtain⟨p0,p1,p2,p3⟩:=bx_cells bb.1
 clear bb hw0 hg hok CA
 go_enter Tryz.func29,Tryz.ntmps29
 go_upto_region 1 with fail
 rw[←HW0.out]
 go_wp2_with (first|(go_at_call 77;refine C.out.mono ?_;rintro e w2 ⟨x,y,z,m1,rfl,hp⟩;have HP:=zH hp.out;clear hp)|(go_at_call 78;refine (CB.out x y z m1 dim true _).mono ?_;rintro e w3 ⟨rfl,hw3⟩;have A3:=zH (two_allocs w2 (.cells #[.float .f64 x,.float .f64 y,.float .f64 z,.float .f64 m1,.int .u8 dim,.bool true] 115) (.cells #[.int .i64 1,.iface 208 (.pointer (some ⟨w2.heap.size,0,none⟩))] 56));have F3:Hid (ZF w2 w3):=(by show Fr _ _ _;rw[hw3];exact ((Fr.refl _ _).alloc _).alloc _);rw[←hw3] at A3;clear hw3;have hr:=((HP.out.1.trans F3.out).block _ (zG HR.out).1 (fun h=>h)).trans HR.out;obtain⟨r0,r1,rf⟩:=lm_cells hr;clear hr))
 refine bodyPost_ret (v:=.agg #[.int .i64 1,.iface 208 (.pointer (some ⟨w2.heap.size,0,none⟩))]) (by simp[results,Tryz.f29,go_sem,r0,r1]) rfl ⟨_,rfl,?_⟩
 have f4:Fr (Eq (w.heap.size+1)) w3 ((w3.setCell ⟨w.heap.size+1,0,none⟩ (.int .i64 1)).setCell ⟨w.heap.size+1,1,none⟩ (.iface 208 (.pointer (some ⟨w2.heap.size,0,none⟩)))):=((Fr.refl _ w3).setR _).setR _
 have h1:=(zG HR.out).1
 have h2:=F0.out.size
 have h3:=HP.out.1.size
 refine⟨((F0.out.trans HP.out.1).trans F3.out).transNew f4 (fun b e=>.inl (by omega)),by show w.heap.size≤w2.heap.size;omega,_,(f4.block _ (zG A3.out.1).1 (by omega)).trans A3.out.1,?_⟩
 have hS:ShE 1 dim (Sh.one xs) (fun b=>w0.heap.size≤b) w2 [.float .f64 x,.float .f64 y,.float .f64 z,.float .f64 m1,.int .u8 dim,.bool true]:=⟨x,y,z,m1,rfl,HP.out.2⟩
 exact (hS.kept (fun b _ hl=>F3.out.block b hl (fun h=>h)) |>.kept (fun b hb hl=>f4.block b hl (by omega))).mono (fun b hb _=>Nat.le_trans h2 hb)
theorem geom29_2{dim:Nat}(hd:dim≤3){s:Sh}{P:Nat→Prop}{w:World}{na:Option Addr}{n nc:Nat}{ka:Option Addr}{m kc:Nat}(hg:GAt 3 P w [.int .i64 2,.int .i64 dim,.slice na n nc,.slice ka m kc] (toG 2 dim s))(hok:GOk 2 dim s):
  Calls Tryz.prog 29 #[.agg #[.int .i64 2,.int .i64 dim,.slice na n nc,.slice ka m kc]] w (GnPost 2 dim 211 s w):=by
 cases s with
 | two _=>exact hok.elim
 | three _=>exact hok.elim
 | one xs =>
 have hk:=gat_parts (D:=2) hg
 have CA:Hid (∀w1,ZF w w1→Calls Tryz.prog 79 #[.agg #[.int .i64 2,.int .i64 dim,.slice na n nc,.slice ka m kc]] w1 (LmPost dim (xs.map flp) w1)):=fun w1 f=>by
  have hN:=CellsAt.kept hk.2.2.2.1 (fun b _ hl=>f.block b hl (fun h=>h))
  have h0:0 < (xs.map flp).length:=by rw[List.length_map];exact hok.1
  have hl:=hk.2.2.1
  obtain⟨b9,o9,c9,e9⟩:=nums_slice hN h0
  rw[←hl] at e9
  rw[e9] at hN ⊢
  rw[List.length_map] at hl
  exact line79 dim hd hN (by rw[hl];exact hok.1) (by rw[hl];exact hok.2.1) (by rw[hl];exact hok.2.2)
 clear hk
 have CB:=zH ac80
 have bb:=two_allocs w (.cells #[.int .i64 2,.int .i64 dim,.slice na n nc,.slice ka m kc] 27) (.cells #[.int .i64 0,.nilIface] 56)
 obtain⟨w0,hw0⟩:∃w0,w0=(w.alloc (.cells #[.int .i64 2,.int .i64 dim,.slice na n nc,.slice ka m kc] 27)).alloc (.cells #[.int .i64 0,.nilIface] 56):=⟨_,rfl⟩
 rw[←hw0] at bb
 have F0:Hid (ZF w w0):=by show Fr _ _ _;rw[hw0];exact ((Fr.refl _ w).alloc _).alloc _
 have HW0:=zH hw0
 have C:=zH (CA.out w0 F0.out)
 have HR:=zH bb.2
 obtain⟨p0,p1,p2,p3⟩:=bx_cells bb.1
 clear bb hw0 hg hok CA
 go_enter Tryz.func29,Tryz.ntmps29
 go_upto_region 1 with fail
 rw[←HW0.out]
 go_wp2_with (first|(go_at_call 79;refine C.out.mono ?_;rintro e w2 ⟨g2,n2,rfl,hp⟩;have HP:=zH hp.out;clear hp)|(go_at_call 80;refine (CB.out dim g2 0 n2 n2 _).mono ?_;rintro e w3 ⟨rfl,hw3⟩;have A3:=zH (two_allocs w2 (.cells #[.int .u8 dim,.slice (some ⟨g2,0,none⟩) n2 n2] 121) (.cells #[.int .i64 2,.iface 211 (.pointer (some ⟨w2.heap.size,0,none⟩))] 56));have F3:Hid (ZF w2 w3):=(by show Fr _ _ _;rw[hw3];exact ((Fr.refl _ _).alloc _).alloc _);rw[←hw3] at A3;clear hw3;have hr:=((HP.out.1.trans F3.out).block _ (zG HR.out).1 (fun h=>h)).trans HR.out;obtain⟨r0,r1,rf⟩:=lm_cells hr;clear hr))
 refine bodyPost_ret (v:=.agg #[.int .i64 2,.iface 211 (.pointer (some ⟨w2.heap.size,0,none⟩))]) (by simp[results,Tryz.f29,go_sem,r0,r1]) rfl ⟨_,rfl,?_⟩
 have f4:Fr (Eq (w.heap.size+1)) w3 ((w3.setCell ⟨w.heap.size+1,0,none⟩ (.int .i64 2)).setCell ⟨w.heap.size+1,1,none⟩ (.iface 211 (.pointer (some ⟨w2.heap.size,0,none⟩)))):=((Fr.refl _ w3).setR _).setR _
 have h1:=(zG HR.out).1
 have h2:=F0.out.size
 have h3:=HP.out.1.size
 refine⟨((F0.out.trans HP.out.1).trans F3.out).transNew f4 (fun b e=>.inl (by omega)),by show w.heap.size≤w2.heap.size;omega,_,(f4.block _ (zG A3.out.1).1 (by omega)).trans A3.out.1,?_⟩
 have hS:ShE 2 dim (Sh.one xs) (fun b=>w0.heap.size≤b) w2 [.int .u8 dim,.slice (some ⟨g2,0,none⟩) n2 n2]:=HP.out.2.2
 exact (hS.kept (fun b _ hl=>F3.out.block b hl (fun h=>h)) |>.kept (fun b hb hl=>f4.block b hl (by omega))).mono (fun b hb _=>Nat.le_trans h2 hb)
theorem geom29_3{dim:Nat}(hd:dim≤3){s:Sh}{P:Nat→Prop}{w:World}{na:Option Addr}{n nc:Nat}{ka:Option Addr}{m kc:Nat}(hg:GAt 3 P w [.int .i64 3,.int .i64 dim,.slice na n nc,.slice ka m kc] (toG 3 dim s))(hok:GOk 3 dim s):
  Calls Tryz.prog 29 #[.agg #[.int .i64 3,.int .i64 dim,.slice na n nc,.slice ka m kc]] w (GnPost 3 dim 213 s w):=by
 cases s with
 | one _=>exact hok.elim
 | three _=>exact hok.elim
 | two xs =>
 have e2:toG 3 dim (.two xs)=G.mk 3 dim [] ((xs.map (·.map flp)).map fun x=>G.mk 2 dim x []):=by
  rw[show ((xs.map (·.map flp)).map fun x=>G.mk 2 dim x [])=xs.map (lf 2 dim) from map_lf 2 dim xs]
  exact wh_ne (by rw[List.length_map];have:=hok.1;omega)
 rw[e2] at hg
 have hk:=gat_parts (D:=2) hg
 have CA:Hid (∀w1,ZF w w1→Calls Tryz.prog 81 #[.agg #[.int .i64 3,.int .i64 dim,.slice na n nc,.slice ka m kc]] w1 (RmPost (LnE dim) 2 dim (xs.map (·.map flp)) w1)):=fun w1 f=>by
  have hR:=hk.2.2.2.2.kept (GAt.kp _) (fun b _ hl=>f.block b hl (fun h=>h))
  exact geo81 hd hR (by rw[List.length_map];exact hok.1) (by rw[List.length_map];exact hok.2.1) (map_mem (fun x hx=>by have:=hok.2.2 x hx;rw[List.length_map];exact this))
 clear hk
 have CB:=zH ac82
 have bb:=two_allocs w (.cells #[.int .i64 3,.int .i64 dim,.slice na n nc,.slice ka m kc] 27) (.cells #[.int .i64 0,.nilIface] 56)
 obtain⟨w0,hw0⟩:∃w0,w0=(w.alloc (.cells #[.int .i64 3,.int .i64 dim,.slice na n nc,.slice ka m kc] 27)).alloc (.cells #[.int .i64 0,.nilIface] 56):=⟨_,rfl⟩
 rw[←hw0] at bb
 have F0:Hid (ZF w w0):=by show Fr _ _ _;rw[hw0];exact ((Fr.refl _ w).alloc _).alloc _
 have HW0:=zH hw0
 have C:=zH (CA.out w0 F0.out)
 have HR:=zH bb.2
 obtain⟨p0,p1,p2,p3⟩:=bx_cells bb.1
 clear bb hw0 hg hok CA
 go_enter Tryz.func29,Tryz.ntmps29
 go_upto_region 1 with fail
 rw[←HW0.out]
 go_wp2_with (first|(go_at_call 81;refine C.out.mono ?_;rintro e w2 ⟨g2,n2,c2,rfl,hp⟩;have HP:=zH hp.out;clear hp)|(go_at_call 82;refine (CB.out dim g2 0 n2 c2 _).mono ?_;rintro e w3 ⟨rfl,hw3⟩;have A3:=zH (two_allocs w2 (.cells #[.slice (some ⟨g2,0,none⟩) n2 c2,.int .u8 dim] 126) (.cells #[.int .i64 3,.iface 213 (.pointer (some ⟨w2.heap.size,0,none⟩))] 56));have F3:Hid (ZF w2 w3):=(by show Fr _ _ _;rw[hw3];exact ((Fr.refl _ _).alloc _).alloc _);rw[←hw3] at A3;clear hw3;have hr:=((HP.out.1.trans F3.out).block _ (zG HR.out).1 (fun h=>h)).trans HR.out;obtain⟨r0,r1,rf⟩:=lm_cells hr;clear hr))
 refine bodyPost_ret (v:=.agg #[.int .i64 3,.iface 213 (.pointer (some ⟨w2.heap.size,0,none⟩))]) (by simp[results,Tryz.f29,go_sem,r0,r1]) rfl ⟨_,rfl,?_⟩
 have f4:Fr (Eq (w.heap.size+1)) w3 ((w3.setCell ⟨w.heap.size+1,0,none⟩ (.int .i64 3)).setCell ⟨w.heap.size+1,1,none⟩ (.iface 213 (.pointer (some ⟨w2.heap.size,0,none⟩)))):=((Fr.refl _ w3).setR _).setR _
 have h1:=(zG HR.out).1
 have h2:=F0.out.size
 have h3:=HP.out.1.size
 refine⟨((F0.out.trans HP.out.1).trans F3.out).transNew f4 (fun b e=>.inl (by omega)),by show w.heap.size≤w2.heap.size;omega,_,(f4.block _ (zG A3.out.1).1 (by omega)).trans A3.out.1,?_⟩
 have hS:ShE 3 dim (Sh.two xs) (fun b=>w0.heap.size≤b) w2 [.slice (some ⟨g2,0,none⟩) n2 c2,.int .u8 dim]:=HP.out.2
 exact (hS.kept (fun b _ hl=>F3.out.block b hl (fun h=>h)) |>.kept (fun b hb hl=>f4.block b hl (by omega))).mono (fun b hb _=>Nat.le_trans h2 hb)
theorem geom29_4{dim:Nat}(hd:dim≤3){s:Sh}{P:Nat→Prop}{w:World}{na:Option Addr}{n nc:Nat}{ka:Option Addr}{m kc:Nat}(hg:GAt 3 P w [.int .i64 4,.int .i64 dim,.slice na n nc,.slice ka m kc] (toG 4 dim s))(hok:GOk 4 dim s):
  Calls Tryz.prog 29 #[.agg #[.int .i64 4,.int .i64 dim,.slice na n nc,.slice ka m kc]] w (GnPost 4 dim 215 s w):=by
 cases s with
 | one _=>exact hok.elim
 | three _=>exact hok.elim
 | two xs =>
 have e2:toG 4 dim (.two xs)=G.mk 4 dim [] ((xs.map (·.map flp)).map fun x=>G.mk 1 dim x []):=by
  rw[show ((xs.map (·.map flp)).map fun x=>G.mk 1 dim x [])=xs.map (lf 1 dim) from map_lf 1 dim xs]
  exact wh_ne (by rw[List.length_map];have:=hok.1;omega)
 rw[e2] at hg
 have hk:=gat_parts (D:=2) hg
 have CA:Hid (∀w1,ZF w w1→Calls Tryz.prog 83 #[.agg #[.int .i64 4,.int .i64 dim,.slice na n nc,.slice ka m kc]] w1 (RmPost (PtE dim) 6 dim (xs.map (·.map flp)) w1)):=fun w1 f=>by
  have hR:=hk.2.2.2.2.kept (GAt.kp _) (fun b _ hl=>f.block b hl (fun h=>h))
  exact geo83 hd hR (by rw[List.length_map];exact hok.1) (by rw[List.length_map];exact hok.2.1) (map_mem (fun x hx=>by have:=hok.2.2 x hx;rw[List.length_map];exact this))
 clear hk
 have CB:=zH ac84
 have bb:=two_allocs w (.cells #[.int .i64 4,.int .i64 dim,.slice na n nc,.slice ka m kc] 27) (.cells #[.int .i64 0,.nilIface] 56)
 obtain⟨w0,hw0⟩:∃w0,w0=(w.alloc (.cells #[.int .i64 4,.int .i64 dim,.slice na n nc,.slice ka m kc] 27)).alloc (.cells #[.int .i64 0,.nilIface] 56):=⟨_,rfl⟩
 rw[←hw0] at bb
 have F0:Hid (ZF w w0):=by show Fr _ _ _;rw[hw0];exact ((Fr.refl _ w).alloc _).alloc _
 have HW0:=zH hw0
 have C:=zH (CA.out w0 F0.out)
 have HR:=zH bb.2
 obtain⟨p0,p1,p2,p3⟩:=bx_cells bb.1
 clear bb hw0 hg hok CA
 go_enter Tryz.func29,Tryz.ntmps29
 go_upto_region 1 with fail
 rw[←HW0.out]
 go_wp2_with (first|(go_at_call 83;refine C.out.mono ?_;rintro e w2 ⟨g2,n2,c2,rfl,hp⟩;have HP:=zH hp.out;clear hp)|(go_at_call 84;refine (CB.out dim g2 0 n2 c2 _).mono ?_;rintro e w3 ⟨rfl,hw3⟩;have A3:=zH (two_allocs w2 (.cells #[.slice (some ⟨g2,0,none⟩) n2 c2,.int .u8 dim] 130) (.cells #[.int .i64 4,.iface 215 (.pointer (some ⟨w2.heap.size,0,none⟩))] 56));have F3:Hid (ZF w2 w3):=(by show Fr _ _ _;rw[hw3];exact ((Fr.refl _ _).alloc _).alloc _);rw[←hw3] at A3;clear hw3;have hr:=((HP.out.1.trans F3.out).block _ (zG HR.out).1 (fun h=>h)).trans HR.out;obtain⟨r0,r1,rf⟩:=lm_cells hr;clear hr))
 refine bodyPost_ret (v:=.agg #[.int .i64 4,.iface 215 (.pointer (some ⟨w2.heap.size,0,none⟩))]) (by simp[results,Tryz.f29,go_sem,r0,r1]) rfl ⟨_,rfl,?_⟩
 have f4:Fr (Eq (w.heap.size+1)) w3 ((w3.setCell ⟨w.heap.size+1,0,none⟩ (.int .i64 4)).setCell ⟨w.heap.size+1,1,none⟩ (.iface 215 (.pointer (some ⟨w2.heap.size,0,none⟩)))):=((Fr.refl _ w3).setR _).setR _
 have h1:=(zG HR.out).1
 have h2:=F0.out.size
 have h3:=HP.out.1.size
 refine⟨((F0.out.trans HP.out.1).trans F3.out).transNew f4 (fun b e=>.inl (by omega)),by show w.heap.size≤w2.heap.size;omega,_,(f4.block _ (zG A3.out.1).1 (by omega)).trans A3.out.1,?_⟩
 have hS:ShE 4 dim (Sh.two xs) (fun b=>w0.heap.size≤b) w2 [.slice (some ⟨g2,0,none⟩) n2 c2,.int .u8 dim]:=HP.out.2
 exact (hS.kept (fun b _ hl=>F3.out.block b hl (fun h=>h)) |>.kept (fun b hb hl=>f4.block b hl (by omega))).mono (fun b hb _=>Nat.le_trans h2 hb)
theorem geom29_5{dim:Nat}(hd:dim≤3){s:Sh}{P:Nat→Prop}{w:World}{na:Option Addr}{n nc:Nat}{ka:Option Addr}{m kc:Nat}(hg:GAt 3 P w [.int .i64 5,.int .i64 dim,.slice na n nc,.slice ka m kc] (toG 5 dim s))(hok:GOk 5 dim s):
  Calls Tryz.prog 29 #[.agg #[.int .i64 5,.int .i64 dim,.slice na n nc,.slice ka m kc]] w (GnPost 5 dim 217 s w):=by
 cases s with
 | one _=>exact hok.elim
 | three _=>exact hok.elim
 | two xs =>
 have e2:toG 5 dim (.two xs)=G.mk 5 dim [] ((xs.map (·.map flp)).map fun x=>G.mk 2 dim x []):=by
  rw[show ((xs.map (·.map flp)).map fun x=>G.mk 2 dim x [])=xs.map (lf 2 dim) from map_lf 2 dim xs]
  exact wh_ne (by rw[List.length_map];have:=hok.1;omega)
 rw[e2] at hg
 have hk:=gat_parts (D:=2) hg
 have CA:Hid (∀w1,ZF w w1→Calls Tryz.prog 85 #[.agg #[.int .i64 5,.int .i64 dim,.slice na n nc,.slice ka m kc]] w1 (RmPost (LnE dim) 2 dim (xs.map (·.map flp)) w1)):=fun w1 f=>by
  have hR:=hk.2.2.2.2.kept (GAt.kp _) (fun b _ hl=>f.block b hl (fun h=>h))
  exact geo85 hd hR (by rw[List.length_map];exact hok.1) (by rw[List.length_map];exact hok.2.1) (map_mem (fun x hx=>by have:=hok.2.2 x hx;rw[List.length_map];exact this))
 clear hk
 have CB:=zH ac86
 have bb:=two_allocs w (.cells #[.int .i64 5,.int .i64 dim,.slice na n nc,.slice ka m kc] 27) (.cells #[.int .i64 0,.nilIface] 56)
 obtain⟨w0,hw0⟩:∃w0,w0=(w.alloc (.cells #[.int .i64 5,.int .i64 dim,.slice na n nc,.slice ka m kc] 27)).alloc (.cells #[.int .i64 0,.nilIface] 56):=⟨_,rfl⟩
 rw[←hw0] at bb
 have F0:Hid (ZF w w0):=by show Fr _ _ _;rw[hw0];exact ((Fr.refl _ w).alloc _).alloc _
 have HW0:=zH hw0
 have C:=zH (CA.out w0 F0.out)
 have HR:=zH bb.2
 obtain⟨p0,p1,p2,p3⟩:=bx_cells bb.1
 clear bb hw0 hg hok CA
 go_enter Tryz.func29,Tryz.ntmps29
 go_upto_region 1 with fail
 rw[←HW0.out]
 go_wp2_with (first|(go_at_call 85;refine C.out.mono ?_;rintro e w2 ⟨g2,n2,c2,rfl,hp⟩;have HP:=zH hp.out;clear hp)|(go_at_call 86;refine (CB.out dim g2 0 n2 c2 _).mono ?_;rintro e w3 ⟨rfl,hw3⟩;have A3:=zH (two_allocs w2 (.cells #[.slice (some ⟨g2,0,none⟩) n2 c2,.int .u8 dim] 134) (.cells #[.int .i64 5,.iface 217 (.pointer (some ⟨w2.heap.size,0,none⟩))] 56));have F3:Hid (ZF w2 w3):=(by show Fr _ _ _;rw[hw3];exact ((Fr.refl _ _).alloc _).alloc _);rw[←hw3] at A3;clear hw3;have hr:=((HP.out.1.trans F3.out).block _ (zG HR.out).1 (fun h=>h)).trans HR.out;obtain⟨r0,r1,rf⟩:=lm_cells hr;clear hr))
 refine bodyPost_ret (v:=.agg #[.int .i64 5,.iface 217 (.pointer (some ⟨w2.heap.size,0,none⟩))]) (by simp[results,Tryz.f29,go_sem,r0,r1]) rfl ⟨_,rfl,?_⟩
 have f4:Fr (Eq (w.heap.size+1)) w3 ((w3.setCell ⟨w.heap.size+1,0,none⟩ (.int .i64 5)).setCell ⟨w.heap.size+1,1,none⟩ (.iface 217 (.pointer (some ⟨w2.heap.size,0,none⟩)))):=((Fr.refl _ w3).setR _).setR _
 have h1:=(zG HR.out).1
 have h2:=F0.out.size
 have h3:=HP.out.1.size
 refine⟨((F0.out.trans HP.out.1).trans F3.out).transNew f4 (fun b e=>.inl (by omega)),by show w.heap.size≤w2.heap.size;omega,_,(f4.block _ (zG A3.out.1).1 (by omega)).trans A3.out.1,?_⟩
 have hS:ShE 5 dim (Sh.two xs) (fun b=>w0.heap.size≤b) w2 [.slice (some ⟨g2,0,none⟩) n2 c2,.int .u8 dim]:=HP.out.2
 exact (hS.kept (fun b _ hl=>F3.out.block b hl (fun h=>h)) |>.kept (fun b hb hl=>f4.block b hl (by omega))).mono (fun b hb _=>Nat.le_trans h2 hb)
theorem geom29_6{dim:Nat}(hd:dim≤3){s:Sh}{P:Nat→Prop}{w:World}{na:Option Addr}{n nc:Nat}{ka:Option Addr}{m kc:Nat}(hg:GAt 3 P w [.int .i64 6,.int .i64 dim,.slice na n nc,.slice ka m kc] (toG 6 dim s))(hok:GOk 6 dim s):
  Calls Tryz.prog 29 #[.agg #[.int .i64 6,.int .i64 dim,.slice na n nc,.slice ka m kc]] w (GnPost 6 dim 219 s w):=by
 cases s with
 | one _=>exact hok.elim
 | two _=>exact hok.elim
 | three xs =>
 have e2:toG 6 dim (.three xs)=G.mk 6 dim [] ((xs.map (·.map (·.map flp))).map fun x=>G.mk 3 dim [] (x.map fun y=>G.mk 2 dim y [])):=by
  have e3:((xs.map (·.map (·.map flp))).map fun x=>G.mk 3 dim [] (x.map fun y=>G.mk 2 dim y []))=xs.map fun x=>wh 3 dim (x.map (lf 2 dim)):=by
   rw[List.map_map]
   refine List.map_congr_left (fun x hx=>?_)
   rw[wh_ne (by rw[List.length_map];have:=(hok.2.2 x hx).1;omega)]
   show G.mk 3 dim [] _=_
   rw[←map_lf]
   rfl
  rw[e3]
  exact wh_ne (by rw[List.length_map];have:=hok.1;omega)
 rw[e2] at hg
 have hk:=gat_parts (D:=2) hg
 have CA:Hid (∀w1,ZF w w1→Calls Tryz.prog 87 #[.agg #[.int .i64 6,.int .i64 dim,.slice na n nc,.slice ka m kc]] w1 (RmPost (RwE (LnE dim) 2 dim) 2 dim (xs.map (·.map (·.map flp))) w1)):=fun w1 f=>by
  have hR:=hk.2.2.2.2.kept (GAt.kp _) (fun b _ hl=>f.block b hl (fun h=>h))
  exact geo87 hd hR (by rw[List.length_map];exact hok.1) (by rw[List.length_map];exact hok.2.1) (map_mem (fun x hx=>by have h:=hok.2.2 x hx;rw[List.length_map];exact⟨h.1,h.2.1,map_mem (fun y hy=>by have:=h.2.2 y hy;rw[List.length_map];exact this)⟩))
 clear hk
 have CB:=zH ac88
 have bb:=two_allocs w (.cells #[.int .i64 6,.int .i64 dim,.slice na n nc,.slice ka m kc] 27) (.cells #[.int .i64 0,.nilIface] 56)
 obtain⟨w0,hw0⟩:∃w0,w0=(w.alloc (.cells #[.int .i64 6,.int .i64 dim,.slice na n nc,.slice ka m kc] 27)).alloc (.cells #[.int .i64 0,.nilIface] 56):=⟨_,rfl⟩
 rw[←hw0] at bb
 have F0:Hid (ZF w w0):=by show Fr _ _ _;rw[hw0];exact ((Fr.refl _ w).alloc _).alloc _
 have HW0:=zH hw0
 have C:=zH (CA.out w0 F0.out)
 have HR:=zH bb.2
 obtain⟨p0,p1,p2,p3⟩:=bx_cells bb.1
 clear bb hw0 hg hok CA
 go_enter Tryz.func29,Tryz.ntmps29
 go_upto_region 1 with fail
 rw[←HW0.out]
 go_wp2_with (first|(go_at_call 87;refine C.out.mono ?_;rintro e w2 ⟨g2,n2,c2,rfl,hp⟩;have HP:=zH hp.out;clear hp)|(go_at_call 88;refine (CB.out dim g2 0 n2 c2 _).mono ?_;rintro e w3 ⟨rfl,hw3⟩;have A3:=zH (two_allocs w2 (.cells #[.slice (some ⟨g2,0,none⟩) n2 c2,.int .u8 dim] 139) (.cells #[.int .i64 6,.iface 219 (.pointer (some ⟨w2.heap.size,0,none⟩))] 56));have F3:Hid (ZF w2 w3):=(by show Fr _ _ _;rw[hw3];exact ((Fr.refl _ _).alloc _).alloc _);rw[←hw3] at A3;clear hw3;have hr:=((HP.out.1.trans F3.out).block _ (zG HR.out).1 (fun h=>h)).trans HR.out;obtain⟨r0,r1,rf⟩:=lm_cells hr;clear hr))
 refine bodyPost_ret (v:=.agg #[.int .i64 6,.iface 219 (.pointer (some ⟨w2.heap.size,0,none⟩))]) (by simp[results,Tryz.f29,go_sem,r0,r1]) rfl ⟨_,rfl,?_⟩
 have f4:Fr (Eq (w.heap.size+1)) w3 ((w3.setCell ⟨w.heap.size+1,0,none⟩ (.int .i64 6)).setCell ⟨w.heap.size+1,1,none⟩ (.iface 219 (.pointer (some ⟨w2.heap.size,0,none⟩)))):=((Fr.refl _ w3).setR _).setR _
 have h1:=(zG HR.out).1
 have h2:=F0.out.size
 have h3:=HP.out.1.size
 refine⟨((F0.out.trans HP.out.1).trans F3.out).transNew f4 (fun b e=>.inl (by omega)),by show w.heap.size≤w2.heap.size;omega,_,(f4.block _ (zG A3.out.1).1 (by omega)).trans A3.out.1,?_⟩
 have hS:ShE 6 dim (Sh.three xs) (fun b=>w0.heap.size≤b) w2 [.slice (some ⟨g2,0,none⟩) n2 c2,.int .u8 dim]:=HP.out.2
 exact (hS.kept (fun b _ hl=>F3.out.block b hl (fun h=>h)) |>.kept (fun b hb hl=>f4.block b hl (by omega))).mono (fun b hb _=>Nat.le_trans h2 hb)
theorem geom29{k dim:Nat}(hk:1≤k∧k≤6)(hd:dim≤3){s:Sh}{P:Nat→Prop}{w:World}{na:Option Addr}{n nc:Nat}{ka:Option Addr}{m kc:Nat}(hg:GAt 3 P w [.int .i64 k,.int .i64 dim,.slice na n nc,.slice ka m kc] (toG k dim s))(hok:GOk k dim s):
  Calls Tryz.prog 29 #[.agg #[.int .i64 k,.int .i64 dim,.slice na n nc,.slice ka m kc]] w (GnPost k dim (kTy k) s w):=by
 have hk6:k=1∨k=2∨k=3∨k=4∨k=5∨k=6:=by omega
 rcases hk6 with rfl|rfl|rfl|rfl|rfl|rfl
 ·exact geom29_1 hd hg hok
 ·exact geom29_2 hd hg hok
 ·exact geom29_3 hd hg hok
 ·exact geom29_4 hd hg hok
 ·exact geom29_5 hd hg hok
 ·exact geom29_6 hd hg hok
end Go.Proofs.YtnjjgbcmjnfijaaGreatDoor
