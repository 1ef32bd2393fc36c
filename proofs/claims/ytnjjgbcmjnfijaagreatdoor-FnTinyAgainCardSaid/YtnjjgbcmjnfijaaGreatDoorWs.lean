/- The package's writer of tiny bytes: the writer made. No condition. -/
import Derived.Test.YtnjjgbcmjnfijaaGreatDoorWr
import Derived.Test.YtnjjgbcmjnfijaaGreatDoorRk
namespace Go.Proofs.YtnjjgbcmjnfijaaGreatDoor
set_option maxRecDepth 100000
set_option maxHeartbeats 2000000
open Go.RowKit Go.Great
def scf (a b c d:Nat):Nat→Nat:=fun i=>if i=0 then a else if i=1 then b else if i=2 then c else if i=3 then d else 0
def qw (px:Int) (dims dm:Nat) (hz hm:Bool) (pz pm:Int) (a b c d:Nat) (ex:Bool):Wt:=⟨.slice none 0 0,.slice none 0 0,0,dm,dims,px,hz,hm,pz,pm,scf a b c d,ex,false,fun _=>0,false,fun _=>0,fun _=>0⟩
def NtPost (q:Wt) (w:World) (e:Ending) (w':World):Prop :=
 ∃wb,e=.returned (.pointer (some ⟨wb,0,none⟩))∧Hid (WtAt w.heap.size wb q [] [] w'∧ZF w w')
theorem info226:(Tryz.prog.info? 226).map (·.size)=some 35:=by kernel_rfl
theorem nt_st{B wb:Nat}{q q':Wt}{w w1 w2 w3:World}(h:WtAt B wb q [] [] w1)(fw:ZF w w1)(hB:w.heap.size≤wb)(f:ZF w1 w2)(i:Nat)(v:Value)(e:w2.setCell ⟨wb,i,none⟩ v=w3)(hq:q.cells.setIfInBounds i v=q'.cells)(h1:q'.hv=q.hv)(h2:q'.cv=q.cv):
  WtAt B wb q' [] [] w3∧ZF w w3:=by
 subst e
 refine⟨((h.keep f).set i v q' hq h1 h2).1,?_⟩
 exact (fw.trans f).setNew hB _
theorem qw_row(B wb:Nat)(px:Int)(dims dm:Nat)(hz hm:Bool)(pz pm:Int)(a b c d:Nat)(ex:Bool){w:World}(h:w.heap[wb]?=some (.cells (qw px dims dm hz hm pz pm a b c d ex).cells 226 (0,0)))(hB:B≤wb):WtAt B wb (qw px dims dm hz hm pz pm a b c d ex) [] [] w :=
 ⟨h,World.ownsRow_nil _ _ _ _,World.ownsRow_nil _ _ _ _,(by intro e;cases e),(by intro e;cases e),.inl rfl,hB⟩
theorem wt_B{B wb:Nat}{q:Wt}{H C:List UInt8}{w:World}(h:WtAt wb wb q H C w)(e:wb=B):WtAt B wb q H C w:=by
 subst e
 exact h
theorem nw73_0(p z m:Nat)(hp:p≤7)(_hz:z≤7)(_hm:m≤7)(w:World)(ht:TenTab w):
  Calls Tryz.prog 73 #[.bool false,.bool false,.int .i64 p,.int .i64 z,.int .i64 m,.bool false,.bool false,.bool true,.slice none 0 0] w (NtPost (qw (p:Int) 2 0 false false 0 0 (tn p) (tn p) 0 0 false) w):=by
 have h3:3≤w.heap.size:=World.block_lt_of_cell? w _ (ht.2 0 (by decide))
 have hsf:=st_fl
 obtain⟨C,hC⟩:∃C,C=(qw 0 0 0 false false 0 0 0 0 0 0 false).cells:=⟨_,rfl⟩
 have hn:Hid (C.size=35):=by show _=_;rw[hC];rfl
 have h1c:Hid (C.all (·.oneCell')=true):=by show _=_;rw[hC];simp[qw,scf,Wt.cells,Value.oneCell']
 obtain⟨w1,hw1⟩:∃w1,w1=w.alloc (.cells C 226):=⟨_,rfl⟩
 have HB:Hid (∀C:Array Value,(w.alloc (.cells C 226)).heap[w.heap.size]?=some (.cells C 226 (0,0))):=fun C=>zN w _
 have F1:Hid (ZF w w1):=by show Fr _ _ _;rw[hw1];exact (Fr.refl _ w).alloc _
 have H1:Hid (WtAt w.heap.size w.heap.size (qw 0 0 0 false false 0 0 0 0 0 0 false) [] [] w1):=by
  refine qw_row _ _ _ _ _ _ _ _ _ _ _ _ _ _ ?_ (Nat.le_refl _)
  rw[hw1,←hC]
  exact zN w _
 have TT:Hid (∀w2,ZF w w2→TenTab w2):=fun w2 f=>ht.fr f (fun h=>h) (fun h=>h)
 obtain⟨u,hu⟩:∃u,u=tn p:=⟨_,rfl⟩
 have CP:Hid (∀w2,ZF w w2→Calls Tryz.prog 152 #[.int .i64 p] w2 fun e w'=>e=.returned (.float .f64 u)∧∃n,w'=w2.drewN n):=fun w2 f=>by rw[hu];exact pow152 p hp w2 (TT.out w2 f)
 rw[←hu]
 have HW1:=zH hw1
 have HC:=zH hC
 obtain⟨wb,hwb⟩:∃wb,wb=w.heap.size:=⟨_,rfl⟩
 have HWB:Hid (w.heap.size≤wb):=by show _≤_;omega
 have HE:=zH hwb
 clear hC hw1 hu ht
 go_enter Tryz.func73,Tryz.ntmps73
 go_upto_region 1 with fail
 refine wp_region_list ?_
 refine wpList_readTo rfl (some 20) rfl (.bool false) rfl ?_
 refine wpList_readTo rfl (some 21) rfl (.bool false) rfl ?_
 refine wpList_readTo rfl (some 22) rfl (.bool true) rfl ?_
 refine wpList_buildTo rfl 226 _ rfl (some 23) rfl C (by rw[HC.out];kernel_rfl) ?_
 refine wpList_allocTo rfl (some 19) rfl (.pointer (some ⟨w.heap.size,0,none⟩)) (.cells ((qw 0 0 0 false false 0 0 0 0 0 0 false).cells.setIfInBounds 34 (.bool false)) 226) (by kernel_rfl) ?_
 refine wpList_store_rowTo rfl 226 _ _ rfl rfl w.heap.size C rfl rfl 226 _ (HB.out _) (by rw[hn.out];exact info226) (by rw[hn.out];rfl) h1c.out ?_
 refine wpList_nil ?_
 rw[World.setRow_alloc_new,←HW1.out]
 rw[←hwb] at H1 ⊢
 clear HB hn h1c HC HW1 hwb
 have c6:w1.cell? ⟨wb,6,none⟩=some (.int .i64 0):=H1.out.c 6
 have fz:=H1.out.fz
 go_upto_region 3 with fail
 generalize hw2:World.setCell _ _ _=w2
 have HS2:=zH (nt_st (q':=(qw (p:Int) 0 0 false false 0 0 0 0 0 0 false)) H1.out F1.out HWB.out (Fr.refl _ w1) 6 (.int .i64 (p:Int)) hw2 rfl rfl rfl)
 have H2:=zH HS2.out.1
 have F2:=zH HS2.out.2
 clear c6 fz hw2 HS2 H1 F1
 have c11:w2.cell? ⟨wb,11,none⟩=some (.float .f64 0):=H2.out.c 11
 have fz:=H2.out.fz
 go_upto_region 4 with (go_at_call 152;refine (CP.out _ F2.out).mono ?_;rintro e we ⟨rfl,nq,rfl⟩)
 generalize hw3:World.setCell _ _ _=w3
 have HS3:=zH (nt_st (q':=(qw (p:Int) 0 0 false false 0 0 u 0 0 0 false)) H2.out F2.out HWB.out ((Fr.refl _ w2).drewN nq) 11 (.float .f64 u) hw3 rfl rfl rfl)
 have H3:=zH HS3.out.1
 have F3:=zH HS3.out.2
 clear c11 fz hw3 HS3 H2 F2
 have c12:w3.cell? ⟨wb,12,none⟩=some (.float .f64 0):=H3.out.c 12
 have c11:w3.cell? ⟨wb,11,none⟩=some (.float .f64 u):=H3.out.c 11
 have fz:=H3.out.fz
 go_upto_region 5 with fail
 generalize hw4:World.setCell _ _ _=w4
 have HS4:=zH (nt_st (q':=(qw (p:Int) 0 0 false false 0 0 u u 0 0 false)) H3.out F3.out HWB.out (Fr.refl _ w3) 12 (.float .f64 u) hw4 rfl rfl rfl)
 have H4:=zH HS4.out.1
 have F4:=zH HS4.out.2
 clear c12 c11 fz hw4 HS4 H3 F3
 have c5:w4.cell? ⟨wb,5,none⟩=some (.int .i64 0):=H4.out.c 5
 have fz:=H4.out.fz
 go_upto_region 6 with fail
 generalize hw5:World.setCell _ _ _=w5
 have HS5:=zH (nt_st (q':=(qw (p:Int) 2 0 false false 0 0 u u 0 0 false)) H4.out F4.out HWB.out (Fr.refl _ w4) 5 (.int .i64 2) hw5 rfl rfl rfl)
 have H5:=zH HS5.out.1
 have F5:=zH HS5.out.2
 clear c5 fz hw5 HS5 H4 F4
 have c4:w5.cell? ⟨wb,4,none⟩=some (.int .u8 0):=H5.out.c 4
 have fz:=H5.out.fz
 go_upto_region 23 with fail
 generalize hw6:World.setCell _ _ _=w6
 have HS6:=zH (nt_st (q':=(qw (p:Int) 2 0 false false 0 0 u u 0 0 false)) H5.out F5.out HWB.out (Fr.refl _ w5) 4 (.int .u8 0) hw6 rfl rfl rfl)
 have H6:=zH HS6.out.1
 have F6:=zH HS6.out.2
 clear c4 fz hw6 HS6 H5 F5
 have c18:w6.cell? ⟨wb,18,none⟩=some (.bool false):=H6.out.c 18
 have fz:=H6.out.fz
 go_upto_region 24 with fail
 generalize hw7:World.setCell _ _ _=w7
 have HS7:=zH (nt_st (q':=(qw (p:Int) 2 0 false false 0 0 u u 0 0 false)) H6.out F6.out HWB.out (Fr.refl _ w6) 18 (.bool false) hw7 rfl rfl rfl)
 have H7:=zH HS7.out.1
 have F7:=zH HS7.out.2
 clear c18 fz hw7 HS7 H6 F6
 go_wp2_with fail
 go_ret
 exact⟨wb,rfl,wt_B H7.out HE.out,F7.out⟩
theorem nw73_1(p z m:Nat)(hp:p≤7)(hz:z≤7)(_hm:m≤7)(w:World)(ht:TenTab w):
  Calls Tryz.prog 73 #[.bool true,.bool false,.int .i64 p,.int .i64 z,.int .i64 m,.bool false,.bool false,.bool true,.slice none 0 0] w (NtPost (qw (p:Int) 3 1 true false (z:Int) 0 (tn p) (tn p) (tn z) 0 true) w):=by
 have h3:3≤w.heap.size:=World.block_lt_of_cell? w _ (ht.2 0 (by decide))
 have hsf:=st_fl
 obtain⟨C,hC⟩:∃C,C=(qw 0 0 0 false false 0 0 0 0 0 0 false).cells:=⟨_,rfl⟩
 have hn:Hid (C.size=35):=by show _=_;rw[hC];rfl
 have h1c:Hid (C.all (·.oneCell')=true):=by show _=_;rw[hC];simp[qw,scf,Wt.cells,Value.oneCell']
 obtain⟨w1,hw1⟩:∃w1,w1=w.alloc (.cells C 226):=⟨_,rfl⟩
 have HB:Hid (∀C:Array Value,(w.alloc (.cells C 226)).heap[w.heap.size]?=some (.cells C 226 (0,0))):=fun C=>zN w _
 have F1:Hid (ZF w w1):=by show Fr _ _ _;rw[hw1];exact (Fr.refl _ w).alloc _
 have H1:Hid (WtAt w.heap.size w.heap.size (qw 0 0 0 false false 0 0 0 0 0 0 false) [] [] w1):=by
  refine qw_row _ _ _ _ _ _ _ _ _ _ _ _ _ _ ?_ (Nat.le_refl _)
  rw[hw1,←hC]
  exact zN w _
 have TT:Hid (∀w2,ZF w w2→TenTab w2):=fun w2 f=>ht.fr f (fun h=>h) (fun h=>h)
 obtain⟨u,hu⟩:∃u,u=tn p:=⟨_,rfl⟩
 obtain⟨uz,huz⟩:∃uz,uz=tn z:=⟨_,rfl⟩
 have CP:Hid (∀w2,ZF w w2→Calls Tryz.prog 152 #[.int .i64 p] w2 fun e w'=>e=.returned (.float .f64 u)∧∃n,w'=w2.drewN n):=fun w2 f=>by rw[hu];exact pow152 p hp w2 (TT.out w2 f)
 have CZ:Hid (∀w2,ZF w w2→Calls Tryz.prog 152 #[.int .i64 z] w2 fun e w'=>e=.returned (.float .f64 uz)∧∃n,w'=w2.drewN n):=fun w2 f=>by rw[huz];exact pow152 z hz w2 (TT.out w2 f)
 rw[←hu,←huz]
 have HW1:=zH hw1
 have HC:=zH hC
 obtain⟨wb,hwb⟩:∃wb,wb=w.heap.size:=⟨_,rfl⟩
 have HWB:Hid (w.heap.size≤wb):=by show _≤_;omega
 have HE:=zH hwb
 clear hC hw1 hu huz ht
 go_enter Tryz.func73,Tryz.ntmps73
 go_upto_region 1 with fail
 refine wp_region_list ?_
 refine wpList_readTo rfl (some 20) rfl (.bool false) rfl ?_
 refine wpList_readTo rfl (some 21) rfl (.bool false) rfl ?_
 refine wpList_readTo rfl (some 22) rfl (.bool true) rfl ?_
 refine wpList_buildTo rfl 226 _ rfl (some 23) rfl C (by rw[HC.out];kernel_rfl) ?_
 refine wpList_allocTo rfl (some 19) rfl (.pointer (some ⟨w.heap.size,0,none⟩)) (.cells ((qw 0 0 0 false false 0 0 0 0 0 0 false).cells.setIfInBounds 34 (.bool false)) 226) (by kernel_rfl) ?_
 refine wpList_store_rowTo rfl 226 _ _ rfl rfl w.heap.size C rfl rfl 226 _ (HB.out _) (by rw[hn.out];exact info226) (by rw[hn.out];rfl) h1c.out ?_
 refine wpList_nil ?_
 rw[World.setRow_alloc_new,←HW1.out]
 rw[←hwb] at H1 ⊢
 clear HB hn h1c HC HW1 hwb
 have c6:w1.cell? ⟨wb,6,none⟩=some (.int .i64 0):=H1.out.c 6
 have fz:=H1.out.fz
 go_upto_region 3 with fail
 generalize hw2:World.setCell _ _ _=w2
 have HS2:=zH (nt_st (q':=(qw (p:Int) 0 0 false false 0 0 0 0 0 0 false)) H1.out F1.out HWB.out (Fr.refl _ w1) 6 (.int .i64 (p:Int)) hw2 rfl rfl rfl)
 have H2:=zH HS2.out.1
 have F2:=zH HS2.out.2
 clear c6 fz hw2 HS2 H1 F1
 have c11:w2.cell? ⟨wb,11,none⟩=some (.float .f64 0):=H2.out.c 11
 have fz:=H2.out.fz
 go_upto_region 4 with (go_at_call 152;refine (CP.out _ F2.out).mono ?_;rintro e we ⟨rfl,nq,rfl⟩)
 generalize hw3:World.setCell _ _ _=w3
 have HS3:=zH (nt_st (q':=(qw (p:Int) 0 0 false false 0 0 u 0 0 0 false)) H2.out F2.out HWB.out ((Fr.refl _ w2).drewN nq) 11 (.float .f64 u) hw3 rfl rfl rfl)
 have H3:=zH HS3.out.1
 have F3:=zH HS3.out.2
 clear c11 fz hw3 HS3 H2 F2
 have c12:w3.cell? ⟨wb,12,none⟩=some (.float .f64 0):=H3.out.c 12
 have c11:w3.cell? ⟨wb,11,none⟩=some (.float .f64 u):=H3.out.c 11
 have fz:=H3.out.fz
 go_upto_region 5 with fail
 generalize hw4:World.setCell _ _ _=w4
 have HS4:=zH (nt_st (q':=(qw (p:Int) 0 0 false false 0 0 u u 0 0 false)) H3.out F3.out HWB.out (Fr.refl _ w3) 12 (.float .f64 u) hw4 rfl rfl rfl)
 have H4:=zH HS4.out.1
 have F4:=zH HS4.out.2
 clear c12 c11 fz hw4 HS4 H3 F3
 have c5:w4.cell? ⟨wb,5,none⟩=some (.int .i64 0):=H4.out.c 5
 have fz:=H4.out.fz
 go_upto_region 6 with fail
 generalize hw5:World.setCell _ _ _=w5
 have HS5:=zH (nt_st (q':=(qw (p:Int) 2 0 false false 0 0 u u 0 0 false)) H4.out F4.out HWB.out (Fr.refl _ w4) 5 (.int .i64 2) hw5 rfl rfl rfl)
 have H5:=zH HS5.out.1
 have F5:=zH HS5.out.2
 clear c5 fz hw5 HS5 H4 F4
 have c7:w5.cell? ⟨wb,7,none⟩=some (.bool false):=H5.out.c 7
 have fz:=H5.out.fz
 go_upto_region 8 with fail
 generalize hw6:World.setCell _ _ _=w6
 have HS6:=zH (nt_st (q':=(qw (p:Int) 2 0 true false 0 0 u u 0 0 false)) H5.out F5.out HWB.out (Fr.refl _ w5) 7 (.bool true) hw6 rfl rfl rfl)
 have H6:=zH HS6.out.1
 have F6:=zH HS6.out.2
 clear c7 fz hw6 HS6 H5 F5
 have c9:w6.cell? ⟨wb,9,none⟩=some (.int .i64 0):=H6.out.c 9
 have fz:=H6.out.fz
 go_upto_region 9 with fail
 generalize hw7:World.setCell _ _ _=w7
 have HS7:=zH (nt_st (q':=(qw (p:Int) 2 0 true false (z:Int) 0 u u 0 0 false)) H6.out F6.out HWB.out (Fr.refl _ w6) 9 (.int .i64 (z:Int)) hw7 rfl rfl rfl)
 have H7:=zH HS7.out.1
 have F7:=zH HS7.out.2
 clear c9 fz hw7 HS7 H6 F6
 have c13:w7.cell? ⟨wb,13,none⟩=some (.float .f64 0):=H7.out.c 13
 have c5:w7.cell? ⟨wb,5,none⟩=some (.int .i64 2):=H7.out.c 5
 have fz:=H7.out.fz
 have CX:Hid (Calls Tryz.prog 152 #[.int .i64 z] w7.drew fun e w'=>e=.returned (.float .f64 uz)∧∃n,w'=w7.drew.drewN n):=CZ.out _ F7.out.drew
 go_cut [] from 40 to 45 (fun wr=>Hid (∃j,wr=(w7.drewN j).setCell ⟨wb,13,none⟩ (.float .f64 uz)))
 case first =>
  go_region_with (go_at_call 152;(with_reducible refine CX.out.mono ?_);rintro e we ⟨rfl,nq,rfl⟩)
  all_goals
   go_wp2_with fail
   go_meet
   exact⟨_,rfl⟩
 obtain⟨j,hj⟩:=hcut.out
 rename World=>w8
 have HS8:=zH (nt_st (q':=(qw (p:Int) 2 0 true false (z:Int) 0 u u uz 0 false)) H7.out F7.out HWB.out ((Fr.refl _ w7).drewN j) 13 (.float .f64 uz) hj.symm rfl rfl rfl)
 have H8:=zH HS8.out.1
 have F8:=zH HS8.out.2
 clear c13 c5 fz hj hcut HS8 H7 F7 CX
 have c5:w8.cell? ⟨wb,5,none⟩=some (.int .i64 2):=H8.out.c 5
 have fz:=H8.out.fz
 go_upto_region 11 with fail
 generalize hw9:World.setCell _ _ _=w9
 have HS9:=zH (nt_st (q':=(qw (p:Int) 3 0 true false (z:Int) 0 u u uz 0 false)) H8.out F8.out HWB.out (Fr.refl _ w8) 5 (.int .i64 3) hw9 rfl rfl rfl)
 have H9:=zH HS9.out.1
 have F9:=zH HS9.out.2
 clear c5 fz hw9 HS9 H8 F8
 have c4:w9.cell? ⟨wb,4,none⟩=some (.int .u8 0):=H9.out.c 4
 have fz:=H9.out.fz
 go_upto_region 23 with fail
 generalize hw10:World.setCell _ _ _=w10
 have HS10:=zH (nt_st (q':=(qw (p:Int) 3 1 true false (z:Int) 0 u u uz 0 false)) H9.out F9.out HWB.out (Fr.refl _ w9) 4 (.int .u8 1) hw10 rfl rfl rfl)
 have H10:=zH HS10.out.1
 have F10:=zH HS10.out.2
 clear c4 fz hw10 HS10 H9 F9
 have c18:w10.cell? ⟨wb,18,none⟩=some (.bool false):=H10.out.c 18
 have fz:=H10.out.fz
 go_upto_region 24 with fail
 generalize hw11:World.setCell _ _ _=w11
 have HS11:=zH (nt_st (q':=(qw (p:Int) 3 1 true false (z:Int) 0 u u uz 0 true)) H10.out F10.out HWB.out (Fr.refl _ w10) 18 (.bool true) hw11 rfl rfl rfl)
 have H11:=zH HS11.out.1
 have F11:=zH HS11.out.2
 clear c18 fz hw11 HS11 H10 F10
 go_wp2_with fail
 go_ret
 exact⟨wb,rfl,wt_B H11.out HE.out,F11.out⟩
theorem nw73_2(p z m:Nat)(hp:p≤7)(_hz:z≤7)(hm:m≤7)(w:World)(ht:TenTab w):
  Calls Tryz.prog 73 #[.bool false,.bool true,.int .i64 p,.int .i64 z,.int .i64 m,.bool false,.bool false,.bool true,.slice none 0 0] w (NtPost (qw (p:Int) 3 2 false true 0 (m:Int) (tn p) (tn p) (tn m) 0 true) w):=by
 have h3:3≤w.heap.size:=World.block_lt_of_cell? w _ (ht.2 0 (by decide))
 have hsf:=st_fl
 obtain⟨C,hC⟩:∃C,C=(qw 0 0 0 false false 0 0 0 0 0 0 false).cells:=⟨_,rfl⟩
 have hn:Hid (C.size=35):=by show _=_;rw[hC];rfl
 have h1c:Hid (C.all (·.oneCell')=true):=by show _=_;rw[hC];simp[qw,scf,Wt.cells,Value.oneCell']
 obtain⟨w1,hw1⟩:∃w1,w1=w.alloc (.cells C 226):=⟨_,rfl⟩
 have HB:Hid (∀C:Array Value,(w.alloc (.cells C 226)).heap[w.heap.size]?=some (.cells C 226 (0,0))):=fun C=>zN w _
 have F1:Hid (ZF w w1):=by show Fr _ _ _;rw[hw1];exact (Fr.refl _ w).alloc _
 have H1:Hid (WtAt w.heap.size w.heap.size (qw 0 0 0 false false 0 0 0 0 0 0 false) [] [] w1):=by
  refine qw_row _ _ _ _ _ _ _ _ _ _ _ _ _ _ ?_ (Nat.le_refl _)
  rw[hw1,←hC]
  exact zN w _
 have TT:Hid (∀w2,ZF w w2→TenTab w2):=fun w2 f=>ht.fr f (fun h=>h) (fun h=>h)
 obtain⟨u,hu⟩:∃u,u=tn p:=⟨_,rfl⟩
 obtain⟨um,hum⟩:∃um,um=tn m:=⟨_,rfl⟩
 have CP:Hid (∀w2,ZF w w2→Calls Tryz.prog 152 #[.int .i64 p] w2 fun e w'=>e=.returned (.float .f64 u)∧∃n,w'=w2.drewN n):=fun w2 f=>by rw[hu];exact pow152 p hp w2 (TT.out w2 f)
 have CM:Hid (∀w2,ZF w w2→Calls Tryz.prog 152 #[.int .i64 m] w2 fun e w'=>e=.returned (.float .f64 um)∧∃n,w'=w2.drewN n):=fun w2 f=>by rw[hum];exact pow152 m hm w2 (TT.out w2 f)
 rw[←hu,←hum]
 have HW1:=zH hw1
 have HC:=zH hC
 obtain⟨wb,hwb⟩:∃wb,wb=w.heap.size:=⟨_,rfl⟩
 have HWB:Hid (w.heap.size≤wb):=by show _≤_;omega
 have HE:=zH hwb
 clear hC hw1 hu hum ht
 go_enter Tryz.func73,Tryz.ntmps73
 go_upto_region 1 with fail
 refine wp_region_list ?_
 refine wpList_readTo rfl (some 20) rfl (.bool false) rfl ?_
 refine wpList_readTo rfl (some 21) rfl (.bool false) rfl ?_
 refine wpList_readTo rfl (some 22) rfl (.bool true) rfl ?_
 refine wpList_buildTo rfl 226 _ rfl (some 23) rfl C (by rw[HC.out];kernel_rfl) ?_
 refine wpList_allocTo rfl (some 19) rfl (.pointer (some ⟨w.heap.size,0,none⟩)) (.cells ((qw 0 0 0 false false 0 0 0 0 0 0 false).cells.setIfInBounds 34 (.bool false)) 226) (by kernel_rfl) ?_
 refine wpList_store_rowTo rfl 226 _ _ rfl rfl w.heap.size C rfl rfl 226 _ (HB.out _) (by rw[hn.out];exact info226) (by rw[hn.out];rfl) h1c.out ?_
 refine wpList_nil ?_
 rw[World.setRow_alloc_new,←HW1.out]
 rw[←hwb] at H1 ⊢
 clear HB hn h1c HC HW1 hwb
 have c6:w1.cell? ⟨wb,6,none⟩=some (.int .i64 0):=H1.out.c 6
 have fz:=H1.out.fz
 go_upto_region 3 with fail
 generalize hw2:World.setCell _ _ _=w2
 have HS2:=zH (nt_st (q':=(qw (p:Int) 0 0 false false 0 0 0 0 0 0 false)) H1.out F1.out HWB.out (Fr.refl _ w1) 6 (.int .i64 (p:Int)) hw2 rfl rfl rfl)
 have H2:=zH HS2.out.1
 have F2:=zH HS2.out.2
 clear c6 fz hw2 HS2 H1 F1
 have c11:w2.cell? ⟨wb,11,none⟩=some (.float .f64 0):=H2.out.c 11
 have fz:=H2.out.fz
 go_upto_region 4 with (go_at_call 152;refine (CP.out _ F2.out).mono ?_;rintro e we ⟨rfl,nq,rfl⟩)
 generalize hw3:World.setCell _ _ _=w3
 have HS3:=zH (nt_st (q':=(qw (p:Int) 0 0 false false 0 0 u 0 0 0 false)) H2.out F2.out HWB.out ((Fr.refl _ w2).drewN nq) 11 (.float .f64 u) hw3 rfl rfl rfl)
 have H3:=zH HS3.out.1
 have F3:=zH HS3.out.2
 clear c11 fz hw3 HS3 H2 F2
 have c12:w3.cell? ⟨wb,12,none⟩=some (.float .f64 0):=H3.out.c 12
 have c11:w3.cell? ⟨wb,11,none⟩=some (.float .f64 u):=H3.out.c 11
 have fz:=H3.out.fz
 go_upto_region 5 with fail
 generalize hw4:World.setCell _ _ _=w4
 have HS4:=zH (nt_st (q':=(qw (p:Int) 0 0 false false 0 0 u u 0 0 false)) H3.out F3.out HWB.out (Fr.refl _ w3) 12 (.float .f64 u) hw4 rfl rfl rfl)
 have H4:=zH HS4.out.1
 have F4:=zH HS4.out.2
 clear c12 c11 fz hw4 HS4 H3 F3
 have c5:w4.cell? ⟨wb,5,none⟩=some (.int .i64 0):=H4.out.c 5
 have fz:=H4.out.fz
 go_upto_region 6 with fail
 generalize hw5:World.setCell _ _ _=w5
 have HS5:=zH (nt_st (q':=(qw (p:Int) 2 0 false false 0 0 u u 0 0 false)) H4.out F4.out HWB.out (Fr.refl _ w4) 5 (.int .i64 2) hw5 rfl rfl rfl)
 have H5:=zH HS5.out.1
 have F5:=zH HS5.out.2
 clear c5 fz hw5 HS5 H4 F4
 have c8:w5.cell? ⟨wb,8,none⟩=some (.bool false):=H5.out.c 8
 have fz:=H5.out.fz
 go_upto_region 13 with fail
 generalize hw6:World.setCell _ _ _=w6
 have HS6:=zH (nt_st (q':=(qw (p:Int) 2 0 false true 0 0 u u 0 0 false)) H5.out F5.out HWB.out (Fr.refl _ w5) 8 (.bool true) hw6 rfl rfl rfl)
 have H6:=zH HS6.out.1
 have F6:=zH HS6.out.2
 clear c8 fz hw6 HS6 H5 F5
 have c10:w6.cell? ⟨wb,10,none⟩=some (.int .i64 0):=H6.out.c 10
 have fz:=H6.out.fz
 go_upto_region 14 with fail
 generalize hw7:World.setCell _ _ _=w7
 have HS7:=zH (nt_st (q':=(qw (p:Int) 2 0 false true 0 (m:Int) u u 0 0 false)) H6.out F6.out HWB.out (Fr.refl _ w6) 10 (.int .i64 (m:Int)) hw7 rfl rfl rfl)
 have H7:=zH HS7.out.1
 have F7:=zH HS7.out.2
 clear c10 fz hw7 HS7 H6 F6
 have c13:w7.cell? ⟨wb,13,none⟩=some (.float .f64 0):=H7.out.c 13
 have c5:w7.cell? ⟨wb,5,none⟩=some (.int .i64 2):=H7.out.c 5
 have fz:=H7.out.fz
 have CX:Hid (Calls Tryz.prog 152 #[.int .i64 m] w7.drew fun e w'=>e=.returned (.float .f64 um)∧∃n,w'=w7.drew.drewN n):=CM.out _ F7.out.drew
 go_cut [] from 54 to 59 (fun wr=>Hid (∃j,wr=(w7.drewN j).setCell ⟨wb,13,none⟩ (.float .f64 um)))
 case first =>
  go_region_with (go_at_call 152;(with_reducible refine CX.out.mono ?_);rintro e we ⟨rfl,nq,rfl⟩)
  all_goals
   go_wp2_with fail
   go_meet
   exact⟨_,rfl⟩
 obtain⟨j,hj⟩:=hcut.out
 rename World=>w8
 have HS8:=zH (nt_st (q':=(qw (p:Int) 2 0 false true 0 (m:Int) u u um 0 false)) H7.out F7.out HWB.out ((Fr.refl _ w7).drewN j) 13 (.float .f64 um) hj.symm rfl rfl rfl)
 have H8:=zH HS8.out.1
 have F8:=zH HS8.out.2
 clear c13 c5 fz hj hcut HS8 H7 F7 CX
 have c5:w8.cell? ⟨wb,5,none⟩=some (.int .i64 2):=H8.out.c 5
 have fz:=H8.out.fz
 go_upto_region 17 with fail
 generalize hw9:World.setCell _ _ _=w9
 have HS9:=zH (nt_st (q':=(qw (p:Int) 3 0 false true 0 (m:Int) u u um 0 false)) H8.out F8.out HWB.out (Fr.refl _ w8) 5 (.int .i64 3) hw9 rfl rfl rfl)
 have H9:=zH HS9.out.1
 have F9:=zH HS9.out.2
 clear c5 fz hw9 HS9 H8 F8
 have c4:w9.cell? ⟨wb,4,none⟩=some (.int .u8 0):=H9.out.c 4
 have fz:=H9.out.fz
 go_upto_region 23 with fail
 generalize hw10:World.setCell _ _ _=w10
 have HS10:=zH (nt_st (q':=(qw (p:Int) 3 2 false true 0 (m:Int) u u um 0 false)) H9.out F9.out HWB.out (Fr.refl _ w9) 4 (.int .u8 2) hw10 rfl rfl rfl)
 have H10:=zH HS10.out.1
 have F10:=zH HS10.out.2
 clear c4 fz hw10 HS10 H9 F9
 have c18:w10.cell? ⟨wb,18,none⟩=some (.bool false):=H10.out.c 18
 have fz:=H10.out.fz
 go_upto_region 24 with fail
 generalize hw11:World.setCell _ _ _=w11
 have HS11:=zH (nt_st (q':=(qw (p:Int) 3 2 false true 0 (m:Int) u u um 0 true)) H10.out F10.out HWB.out (Fr.refl _ w10) 18 (.bool true) hw11 rfl rfl rfl)
 have H11:=zH HS11.out.1
 have F11:=zH HS11.out.2
 clear c18 fz hw11 HS11 H10 F10
 go_wp2_with fail
 go_ret
 exact⟨wb,rfl,wt_B H11.out HE.out,F11.out⟩
theorem nw73_3(p z m:Nat)(hp:p≤7)(hz:z≤7)(hm:m≤7)(w:World)(ht:TenTab w):
  Calls Tryz.prog 73 #[.bool true,.bool true,.int .i64 p,.int .i64 z,.int .i64 m,.bool false,.bool false,.bool true,.slice none 0 0] w (NtPost (qw (p:Int) 4 3 true true (z:Int) (m:Int) (tn p) (tn p) (tn z) (tn m) true) w):=by
 have h3:3≤w.heap.size:=World.block_lt_of_cell? w _ (ht.2 0 (by decide))
 have hsf:=st_fl
 obtain⟨C,hC⟩:∃C,C=(qw 0 0 0 false false 0 0 0 0 0 0 false).cells:=⟨_,rfl⟩
 have hn:Hid (C.size=35):=by show _=_;rw[hC];rfl
 have h1c:Hid (C.all (·.oneCell')=true):=by show _=_;rw[hC];simp[qw,scf,Wt.cells,Value.oneCell']
 obtain⟨w1,hw1⟩:∃w1,w1=w.alloc (.cells C 226):=⟨_,rfl⟩
 have HB:Hid (∀C:Array Value,(w.alloc (.cells C 226)).heap[w.heap.size]?=some (.cells C 226 (0,0))):=fun C=>zN w _
 have F1:Hid (ZF w w1):=by show Fr _ _ _;rw[hw1];exact (Fr.refl _ w).alloc _
 have H1:Hid (WtAt w.heap.size w.heap.size (qw 0 0 0 false false 0 0 0 0 0 0 false) [] [] w1):=by
  refine qw_row _ _ _ _ _ _ _ _ _ _ _ _ _ _ ?_ (Nat.le_refl _)
  rw[hw1,←hC]
  exact zN w _
 have TT:Hid (∀w2,ZF w w2→TenTab w2):=fun w2 f=>ht.fr f (fun h=>h) (fun h=>h)
 obtain⟨u,hu⟩:∃u,u=tn p:=⟨_,rfl⟩
 obtain⟨uz,huz⟩:∃uz,uz=tn z:=⟨_,rfl⟩
 obtain⟨um,hum⟩:∃um,um=tn m:=⟨_,rfl⟩
 have CP:Hid (∀w2,ZF w w2→Calls Tryz.prog 152 #[.int .i64 p] w2 fun e w'=>e=.returned (.float .f64 u)∧∃n,w'=w2.drewN n):=fun w2 f=>by rw[hu];exact pow152 p hp w2 (TT.out w2 f)
 have CZ:Hid (∀w2,ZF w w2→Calls Tryz.prog 152 #[.int .i64 z] w2 fun e w'=>e=.returned (.float .f64 uz)∧∃n,w'=w2.drewN n):=fun w2 f=>by rw[huz];exact pow152 z hz w2 (TT.out w2 f)
 have CM:Hid (∀w2,ZF w w2→Calls Tryz.prog 152 #[.int .i64 m] w2 fun e w'=>e=.returned (.float .f64 um)∧∃n,w'=w2.drewN n):=fun w2 f=>by rw[hum];exact pow152 m hm w2 (TT.out w2 f)
 rw[←hu,←huz,←hum]
 have HW1:=zH hw1
 have HC:=zH hC
 obtain⟨wb,hwb⟩:∃wb,wb=w.heap.size:=⟨_,rfl⟩
 have HWB:Hid (w.heap.size≤wb):=by show _≤_;omega
 have HE:=zH hwb
 clear hC hw1 hu huz hum ht
 go_enter Tryz.func73,Tryz.ntmps73
 go_upto_region 1 with fail
 refine wp_region_list ?_
 refine wpList_readTo rfl (some 20) rfl (.bool false) rfl ?_
 refine wpList_readTo rfl (some 21) rfl (.bool false) rfl ?_
 refine wpList_readTo rfl (some 22) rfl (.bool true) rfl ?_
 refine wpList_buildTo rfl 226 _ rfl (some 23) rfl C (by rw[HC.out];kernel_rfl) ?_
 refine wpList_allocTo rfl (some 19) rfl (.pointer (some ⟨w.heap.size,0,none⟩)) (.cells ((qw 0 0 0 false false 0 0 0 0 0 0 false).cells.setIfInBounds 34 (.bool false)) 226) (by kernel_rfl) ?_
 refine wpList_store_rowTo rfl 226 _ _ rfl rfl w.heap.size C rfl rfl 226 _ (HB.out _) (by rw[hn.out];exact info226) (by rw[hn.out];rfl) h1c.out ?_
 refine wpList_nil ?_
 rw[World.setRow_alloc_new,←HW1.out]
 rw[←hwb] at H1 ⊢
 clear HB hn h1c HC HW1 hwb
 have c6:w1.cell? ⟨wb,6,none⟩=some (.int .i64 0):=H1.out.c 6
 have fz:=H1.out.fz
 go_upto_region 3 with fail
 generalize hw2:World.setCell _ _ _=w2
 have HS2:=zH (nt_st (q':=(qw (p:Int) 0 0 false false 0 0 0 0 0 0 false)) H1.out F1.out HWB.out (Fr.refl _ w1) 6 (.int .i64 (p:Int)) hw2 rfl rfl rfl)
 have H2:=zH HS2.out.1
 have F2:=zH HS2.out.2
 clear c6 fz hw2 HS2 H1 F1
 have c11:w2.cell? ⟨wb,11,none⟩=some (.float .f64 0):=H2.out.c 11
 have fz:=H2.out.fz
 go_upto_region 4 with (go_at_call 152;refine (CP.out _ F2.out).mono ?_;rintro e we ⟨rfl,nq,rfl⟩)
 generalize hw3:World.setCell _ _ _=w3
 have HS3:=zH (nt_st (q':=(qw (p:Int) 0 0 false false 0 0 u 0 0 0 false)) H2.out F2.out HWB.out ((Fr.refl _ w2).drewN nq) 11 (.float .f64 u) hw3 rfl rfl rfl)
 have H3:=zH HS3.out.1
 have F3:=zH HS3.out.2
 clear c11 fz hw3 HS3 H2 F2
 have c12:w3.cell? ⟨wb,12,none⟩=some (.float .f64 0):=H3.out.c 12
 have c11:w3.cell? ⟨wb,11,none⟩=some (.float .f64 u):=H3.out.c 11
 have fz:=H3.out.fz
 go_upto_region 5 with fail
 generalize hw4:World.setCell _ _ _=w4
 have HS4:=zH (nt_st (q':=(qw (p:Int) 0 0 false false 0 0 u u 0 0 false)) H3.out F3.out HWB.out (Fr.refl _ w3) 12 (.float .f64 u) hw4 rfl rfl rfl)
 have H4:=zH HS4.out.1
 have F4:=zH HS4.out.2
 clear c12 c11 fz hw4 HS4 H3 F3
 have c5:w4.cell? ⟨wb,5,none⟩=some (.int .i64 0):=H4.out.c 5
 have fz:=H4.out.fz
 go_upto_region 6 with fail
 generalize hw5:World.setCell _ _ _=w5
 have HS5:=zH (nt_st (q':=(qw (p:Int) 2 0 false false 0 0 u u 0 0 false)) H4.out F4.out HWB.out (Fr.refl _ w4) 5 (.int .i64 2) hw5 rfl rfl rfl)
 have H5:=zH HS5.out.1
 have F5:=zH HS5.out.2
 clear c5 fz hw5 HS5 H4 F4
 have c7:w5.cell? ⟨wb,7,none⟩=some (.bool false):=H5.out.c 7
 have fz:=H5.out.fz
 go_upto_region 8 with fail
 generalize hw6:World.setCell _ _ _=w6
 have HS6:=zH (nt_st (q':=(qw (p:Int) 2 0 true false 0 0 u u 0 0 false)) H5.out F5.out HWB.out (Fr.refl _ w5) 7 (.bool true) hw6 rfl rfl rfl)
 have H6:=zH HS6.out.1
 have F6:=zH HS6.out.2
 clear c7 fz hw6 HS6 H5 F5
 have c9:w6.cell? ⟨wb,9,none⟩=some (.int .i64 0):=H6.out.c 9
 have fz:=H6.out.fz
 go_upto_region 9 with fail
 generalize hw7:World.setCell _ _ _=w7
 have HS7:=zH (nt_st (q':=(qw (p:Int) 2 0 true false (z:Int) 0 u u 0 0 false)) H6.out F6.out HWB.out (Fr.refl _ w6) 9 (.int .i64 (z:Int)) hw7 rfl rfl rfl)
 have H7:=zH HS7.out.1
 have F7:=zH HS7.out.2
 clear c9 fz hw7 HS7 H6 F6
 have c13:w7.cell? ⟨wb,13,none⟩=some (.float .f64 0):=H7.out.c 13
 have c5:w7.cell? ⟨wb,5,none⟩=some (.int .i64 2):=H7.out.c 5
 have fz:=H7.out.fz
 have CX:Hid (Calls Tryz.prog 152 #[.int .i64 z] w7.drew fun e w'=>e=.returned (.float .f64 uz)∧∃n,w'=w7.drew.drewN n):=CZ.out _ F7.out.drew
 go_cut [] from 40 to 45 (fun wr=>Hid (∃j,wr=(w7.drewN j).setCell ⟨wb,13,none⟩ (.float .f64 uz)))
 case first =>
  go_region_with (go_at_call 152;(with_reducible refine CX.out.mono ?_);rintro e we ⟨rfl,nq,rfl⟩)
  all_goals
   go_wp2_with fail
   go_meet
   exact⟨_,rfl⟩
 obtain⟨j,hj⟩:=hcut.out
 rename World=>w8
 have HS8:=zH (nt_st (q':=(qw (p:Int) 2 0 true false (z:Int) 0 u u uz 0 false)) H7.out F7.out HWB.out ((Fr.refl _ w7).drewN j) 13 (.float .f64 uz) hj.symm rfl rfl rfl)
 have H8:=zH HS8.out.1
 have F8:=zH HS8.out.2
 clear c13 c5 fz hj hcut HS8 H7 F7 CX
 have c5:w8.cell? ⟨wb,5,none⟩=some (.int .i64 2):=H8.out.c 5
 have fz:=H8.out.fz
 go_upto_region 11 with fail
 generalize hw9:World.setCell _ _ _=w9
 have HS9:=zH (nt_st (q':=(qw (p:Int) 3 0 true false (z:Int) 0 u u uz 0 false)) H8.out F8.out HWB.out (Fr.refl _ w8) 5 (.int .i64 3) hw9 rfl rfl rfl)
 have H9:=zH HS9.out.1
 have F9:=zH HS9.out.2
 clear c5 fz hw9 HS9 H8 F8
 have c8:w9.cell? ⟨wb,8,none⟩=some (.bool false):=H9.out.c 8
 have fz:=H9.out.fz
 go_upto_region 13 with fail
 generalize hw10:World.setCell _ _ _=w10
 have HS10:=zH (nt_st (q':=(qw (p:Int) 3 0 true true (z:Int) 0 u u uz 0 false)) H9.out F9.out HWB.out (Fr.refl _ w9) 8 (.bool true) hw10 rfl rfl rfl)
 have H10:=zH HS10.out.1
 have F10:=zH HS10.out.2
 clear c8 fz hw10 HS10 H9 F9
 have c10:w10.cell? ⟨wb,10,none⟩=some (.int .i64 0):=H10.out.c 10
 have fz:=H10.out.fz
 go_upto_region 14 with fail
 generalize hw11:World.setCell _ _ _=w11
 have HS11:=zH (nt_st (q':=(qw (p:Int) 3 0 true true (z:Int) (m:Int) u u uz 0 false)) H10.out F10.out HWB.out (Fr.refl _ w10) 10 (.int .i64 (m:Int)) hw11 rfl rfl rfl)
 have H11:=zH HS11.out.1
 have F11:=zH HS11.out.2
 clear c10 fz hw11 HS11 H10 F10
 have c14:w11.cell? ⟨wb,14,none⟩=some (.float .f64 0):=H11.out.c 14
 have c5:w11.cell? ⟨wb,5,none⟩=some (.int .i64 3):=H11.out.c 5
 have fz:=H11.out.fz
 have CX:Hid (Calls Tryz.prog 152 #[.int .i64 m] w11.drew fun e w'=>e=.returned (.float .f64 um)∧∃n,w'=w11.drew.drewN n):=CM.out _ F11.out.drew
 go_cut [] from 54 to 59 (fun wr=>Hid (∃j,wr=(w11.drewN j).setCell ⟨wb,14,none⟩ (.float .f64 um)))
 case first =>
  go_region_with (go_at_call 152;(with_reducible refine CX.out.mono ?_);rintro e we ⟨rfl,nq,rfl⟩)
  all_goals
   go_wp2_with fail
   go_meet
   exact⟨_,rfl⟩
 obtain⟨j,hj⟩:=hcut.out
 rename World=>w12
 have HS12:=zH (nt_st (q':=(qw (p:Int) 3 0 true true (z:Int) (m:Int) u u uz um false)) H11.out F11.out HWB.out ((Fr.refl _ w11).drewN j) 14 (.float .f64 um) hj.symm rfl rfl rfl)
 have H12:=zH HS12.out.1
 have F12:=zH HS12.out.2
 clear c14 c5 fz hj hcut HS12 H11 F11 CX
 have c5:w12.cell? ⟨wb,5,none⟩=some (.int .i64 3):=H12.out.c 5
 have fz:=H12.out.fz
 go_upto_region 17 with fail
 generalize hw13:World.setCell _ _ _=w13
 have HS13:=zH (nt_st (q':=(qw (p:Int) 4 0 true true (z:Int) (m:Int) u u uz um false)) H12.out F12.out HWB.out (Fr.refl _ w12) 5 (.int .i64 4) hw13 rfl rfl rfl)
 have H13:=zH HS13.out.1
 have F13:=zH HS13.out.2
 clear c5 fz hw13 HS13 H12 F12
 have c4:w13.cell? ⟨wb,4,none⟩=some (.int .u8 0):=H13.out.c 4
 have fz:=H13.out.fz
 go_upto_region 23 with fail
 generalize hw14:World.setCell _ _ _=w14
 have HS14:=zH (nt_st (q':=(qw (p:Int) 4 3 true true (z:Int) (m:Int) u u uz um false)) H13.out F13.out HWB.out (Fr.refl _ w13) 4 (.int .u8 3) hw14 rfl rfl rfl)
 have H14:=zH HS14.out.1
 have F14:=zH HS14.out.2
 clear c4 fz hw14 HS14 H13 F13
 have c18:w14.cell? ⟨wb,18,none⟩=some (.bool false):=H14.out.c 18
 have fz:=H14.out.fz
 go_upto_region 24 with fail
 generalize hw15:World.setCell _ _ _=w15
 have HS15:=zH (nt_st (q':=(qw (p:Int) 4 3 true true (z:Int) (m:Int) u u uz um true)) H14.out F14.out HWB.out (Fr.refl _ w14) 18 (.bool true) hw15 rfl rfl rfl)
 have H15:=zH HS15.out.1
 have F15:=zH HS15.out.2
 clear c18 fz hw15 HS15 H14 F14
 go_wp2_with fail
 go_ret
 exact⟨wb,rfl,wt_B H15.out HE.out,F15.out⟩
def prs (dim p z m:Nat):List Int:=[(p:Int),(p:Int)]++(if dim % 2=1 then [(z:Int)] else [])++(if dim / 2 % 2=1 then [(m:Int)] else [])
def NvPost (dim p z m:Nat) (w:World) (e:Ending) (w':World):Prop :=
 ∃(wb:Nat) (q:Wt) (z' m' x:Nat),e=.returned (.pointer (some ⟨wb,0,none⟩))∧Hid (WtAt w.heap.size wb q [] [] w'∧ZF w w'∧WqOk q dim (prs dim p z m) p z' m' x∧RfOk q.rf ((prs dim p z m).map fun _=>0)∧∀k s,hdE [] k p x q.ex++bodyE k (prs dim p z m) ((prs dim p z m).map fun _=>0) s=docE k dim p z m (prs dim p z m) s)
theorem prs_rf(ps:List Int):RfOk (fun _=>0) (ps.map fun _=>0):=fun d hd=>by simp
theorem nw73(dim p z m:Nat)(hd:dim≤3)(hp:p≤7)(hz:z≤7)(hm:m≤7)(w:World)(ht:TenTab w):
  Calls Tryz.prog 73 #[.bool (dim % 2 == 1),.bool (dim / 2 % 2 == 1),.int .i64 p,.int .i64 ((if (dim % 2 == 1)=true then z else 0:Nat):Int),.int .i64 ((if (dim / 2 % 2 == 1)=true then m else 0:Nat):Int),.bool false,.bool false,.bool true,.slice none 0 0] w (NvPost dim p z m w):=by
 have hd4:dim=0∨dim=1∨dim=2∨dim=3:=by omega
 have bd:∀d,∀x∈prs d p z m,0≤x∧x≤7:=fun d x hx=>by
  unfold prs at hx
  simp only[List.mem_append,List.mem_cons] at hx
  have h1:∀(c:Prop) [Decidable c] (v:Nat),v≤7→x∈(if c then [(v:Int)] else [])→0≤x∧x≤7:=fun c _ v hv h=>by
   split at h
   ·simp at h;omega
   ·simp at h
  rcases hx with (h|h)|h
  ·simp at h;omega
  ·exact h1 _ z hz h
  ·exact h1 _ m hm h
 rcases hd4 with rfl|rfl|rfl|rfl
 ·refine (nw73_0 p 0 0 hp (by omega) (by omega) w ht).mono (fun e w' h=>?_)
  obtain⟨wb,h1,h2⟩:=h
  refine⟨wb,_,0,0,_,h1,h2.out.1,h2.out.2,⟨⟨by simp[prs,qw],by simp[prs],by simp[prs],bd _,fun d hd=>?_⟩,by simp[prs,wd],rfl,by omega,rfl,hp,rfl,by omega,rfl,by omega,rfl⟩,prs_rf _,fun k s=>hd_doc k 0 p z m _ s _ _ _ (by rfl) (by rfl) (by rfl) _ (by simp[qw])⟩
  have hd:d < 2:=by simpa [prs] using hd
  have hc:d=0∨d=1:=by omega
  rcases hc with rfl|rfl<;>simp[prs,qw,scf]
 ·refine (nw73_1 p z 0 hp (by omega) (by omega) w ht).mono (fun e w' h=>?_)
  obtain⟨wb,h1,h2⟩:=h
  refine⟨wb,_,z,0,_,h1,h2.out.1,h2.out.2,⟨⟨by simp[prs,qw],by simp[prs],by simp[prs],bd _,fun d hd=>?_⟩,by simp[prs,wd],rfl,by omega,rfl,hp,rfl,by omega,rfl,by omega,rfl⟩,prs_rf _,fun k s=>hd_doc k 1 p z m _ s _ _ _ (by rfl) (by rfl) (by rfl) _ (by simp[qw])⟩
  have hd:d < 3:=by simpa [prs] using hd
  have hc:d=0∨d=1∨d=2:=by omega
  rcases hc with rfl|rfl|rfl<;>simp[prs,qw,scf]
 ·refine (nw73_2 p 0 m hp (by omega) (by omega) w ht).mono (fun e w' h=>?_)
  obtain⟨wb,h1,h2⟩:=h
  refine⟨wb,_,0,m,_,h1,h2.out.1,h2.out.2,⟨⟨by simp[prs,qw],by simp[prs],by simp[prs],bd _,fun d hd=>?_⟩,by simp[prs,wd],rfl,by omega,rfl,hp,rfl,by omega,rfl,by omega,rfl⟩,prs_rf _,fun k s=>hd_doc k 2 p z m _ s _ _ _ (by rfl) (by rfl) (by rfl) _ (by simp[qw])⟩
  have hd:d < 3:=by simpa [prs] using hd
  have hc:d=0∨d=1∨d=2:=by omega
  rcases hc with rfl|rfl|rfl<;>simp[prs,qw,scf]
 ·refine (nw73_3 p z m hp (by omega) (by omega) w ht).mono (fun e w' h=>?_)
  obtain⟨wb,h1,h2⟩:=h
  refine⟨wb,_,z,m,_,h1,h2.out.1,h2.out.2,⟨⟨by simp[prs,qw],by simp[prs],by simp[prs],bd _,fun d hd=>?_⟩,by simp[prs,wd],rfl,by omega,rfl,hp,rfl,by omega,rfl,by omega,rfl⟩,prs_rf _,fun k s=>hd_doc k 3 p z m _ s _ _ _ (by rfl) (by rfl) (by rfl) _ (by simp[qw])⟩
  have hd:d < 4:=by simpa [prs] using hd
  have hc:d=0∨d=1∨d=2∨d=3:=by omega
  rcases hc with rfl|rfl|rfl|rfl<;>simp[prs,qw,scf]
end Go.Proofs.YtnjjgbcmjnfijaaGreatDoor
