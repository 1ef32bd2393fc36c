/- The package's reader of tiny bytes: the first two bytes. No condition. -/
import Derived.Test.YtnjjgbcmjnfijaaGreatDoorR4
import Derived.Test.YtnjjgbcmjnfijaaGreatDoorG6
import Derived.Test.YtnjjgbcmjnfijaaGreatDoorG8
namespace Go.Proofs.YtnjjgbcmjnfijaaGreatDoor
set_option maxRecDepth 100000
set_option maxHeartbeats 4000000
open Go.RowKit
def tn (p:Nat):Nat:=floatOfInt .f64 ((10 ^ p:Nat):Int)
def TenTab (w:World):Prop:=w.cell? ⟨1,0,none⟩=some (.float .f64 4607182418800017408)∧∀i,i < 8→w.cell? ⟨2,i,none⟩=some (.float .f64 (tn i))
theorem TenTab.fr{R:Nat→Prop}{w w':World}(h:TenTab w)(f:Fr R w w')(h1:¬R 1)(h2:¬R 2):TenTab w':=⟨f.cell h.1 h1,fun i hi=>f.cell (h.2 i hi) h2⟩
theorem one_ten:∀p:Fin 8,floatBits .mul .f64 4607182418800017408 (tn p.val)=some (tn p.val):=by decide +kernel
theorem ten_run(p:Nat)(hp:p < 8)(t:TypeId)(w:World):(binOp .mul t (.float .f64 4607182418800017408) (.float .f64 (tn p))).run Tryz.prog w=.ok (.float .f64 (tn p)) w :=
 run_float_arith w .mul t .f64 _ _ _ (one_ten ⟨p,hp⟩)
theorem pow152_0(w:World)(h:TenTab w):Calls Tryz.prog 152 #[.int .i64 0] w fun e w'=>e=.returned (.float .f64 (tn 0))∧∃n,w'=w.drewN n:=by
 have c1:=h.1
 have c2:=h.2 0 (by decide)
 have hm:=ten_run 0 (by decide)
 obtain⟨v,hv⟩:∃v,v=tn 0:=⟨_,rfl⟩
 rw[←hv] at c2 hm ⊢
 clear h hv
 go_enter Tryz.func152,Tryz.ntmps152
 go_upto_region 2 with fail
 go_quiet (fail)
 go_wp2_with fail
 go_ret
 exact⟨rfl,_,rfl⟩
theorem pow152_1(w:World)(h:TenTab w):Calls Tryz.prog 152 #[.int .i64 1] w fun e w'=>e=.returned (.float .f64 (tn 1))∧∃n,w'=w.drewN n:=by
 have c1:=h.1
 have c2:=h.2 1 (by decide)
 have hm:=ten_run 1 (by decide)
 obtain⟨v,hv⟩:∃v,v=tn 1:=⟨_,rfl⟩
 rw[←hv] at c2 hm ⊢
 clear h hv
 go_enter Tryz.func152,Tryz.ntmps152
 go_upto_region 2 with fail
 go_quiet (fail)
 go_wp2_with fail
 go_ret
 exact⟨rfl,_,rfl⟩
theorem pow152_2(w:World)(h:TenTab w):Calls Tryz.prog 152 #[.int .i64 2] w fun e w'=>e=.returned (.float .f64 (tn 2))∧∃n,w'=w.drewN n:=by
 have c1:=h.1
 have c2:=h.2 2 (by decide)
 have hm:=ten_run 2 (by decide)
 obtain⟨v,hv⟩:∃v,v=tn 2:=⟨_,rfl⟩
 rw[←hv] at c2 hm ⊢
 clear h hv
 go_enter Tryz.func152,Tryz.ntmps152
 go_upto_region 2 with fail
 go_quiet (fail)
 go_wp2_with fail
 go_ret
 exact⟨rfl,_,rfl⟩
theorem pow152_3(w:World)(h:TenTab w):Calls Tryz.prog 152 #[.int .i64 3] w fun e w'=>e=.returned (.float .f64 (tn 3))∧∃n,w'=w.drewN n:=by
 have c1:=h.1
 have c2:=h.2 3 (by decide)
 have hm:=ten_run 3 (by decide)
 obtain⟨v,hv⟩:∃v,v=tn 3:=⟨_,rfl⟩
 rw[←hv] at c2 hm ⊢
 clear h hv
 go_enter Tryz.func152,Tryz.ntmps152
 go_upto_region 2 with fail
 go_quiet (fail)
 go_wp2_with fail
 go_ret
 exact⟨rfl,_,rfl⟩
theorem pow152_4(w:World)(h:TenTab w):Calls Tryz.prog 152 #[.int .i64 4] w fun e w'=>e=.returned (.float .f64 (tn 4))∧∃n,w'=w.drewN n:=by
 have c1:=h.1
 have c2:=h.2 4 (by decide)
 have hm:=ten_run 4 (by decide)
 obtain⟨v,hv⟩:∃v,v=tn 4:=⟨_,rfl⟩
 rw[←hv] at c2 hm ⊢
 clear h hv
 go_enter Tryz.func152,Tryz.ntmps152
 go_upto_region 2 with fail
 go_quiet (fail)
 go_wp2_with fail
 go_ret
 exact⟨rfl,_,rfl⟩
theorem pow152_5(w:World)(h:TenTab w):Calls Tryz.prog 152 #[.int .i64 5] w fun e w'=>e=.returned (.float .f64 (tn 5))∧∃n,w'=w.drewN n:=by
 have c1:=h.1
 have c2:=h.2 5 (by decide)
 have hm:=ten_run 5 (by decide)
 obtain⟨v,hv⟩:∃v,v=tn 5:=⟨_,rfl⟩
 rw[←hv] at c2 hm ⊢
 clear h hv
 go_enter Tryz.func152,Tryz.ntmps152
 go_upto_region 2 with fail
 go_quiet (fail)
 go_wp2_with fail
 go_ret
 exact⟨rfl,_,rfl⟩
theorem pow152_6(w:World)(h:TenTab w):Calls Tryz.prog 152 #[.int .i64 6] w fun e w'=>e=.returned (.float .f64 (tn 6))∧∃n,w'=w.drewN n:=by
 have c1:=h.1
 have c2:=h.2 6 (by decide)
 have hm:=ten_run 6 (by decide)
 obtain⟨v,hv⟩:∃v,v=tn 6:=⟨_,rfl⟩
 rw[←hv] at c2 hm ⊢
 clear h hv
 go_enter Tryz.func152,Tryz.ntmps152
 go_upto_region 2 with fail
 go_quiet (fail)
 go_wp2_with fail
 go_ret
 exact⟨rfl,_,rfl⟩
theorem pow152_7(w:World)(h:TenTab w):Calls Tryz.prog 152 #[.int .i64 7] w fun e w'=>e=.returned (.float .f64 (tn 7))∧∃n,w'=w.drewN n:=by
 have c1:=h.1
 have c2:=h.2 7 (by decide)
 have hm:=ten_run 7 (by decide)
 obtain⟨v,hv⟩:∃v,v=tn 7:=⟨_,rfl⟩
 rw[←hv] at c2 hm ⊢
 clear h hv
 go_enter Tryz.func152,Tryz.ntmps152
 go_upto_region 2 with fail
 go_quiet (fail)
 go_wp2_with fail
 go_ret
 exact⟨rfl,_,rfl⟩
theorem pow152(p:Nat)(hp:p≤7)(w:World)(h:TenTab w):Calls Tryz.prog 152 #[.int .i64 p] w fun e w'=>e=.returned (.float .f64 (tn p))∧∃n,w'=w.drewN n:=by
 have hc:p=0∨p=1∨p=2∨p=3∨p=4∨p=5∨p=6∨p=7:=by omega
 rcases hc with rfl|rfl|rfl|rfl|rfl|rfl|rfl|rfl
 ·exact pow152_0 w h
 ·exact pow152_1 w h
 ·exact pow152_2 w h
 ·exact pow152_3 w h
 ·exact pow152_4 w h
 ·exact pow152_5 w h
 ·exact pow152_6 w h
 ·exact pow152_7 w h
theorem zig237_0(w:World):Calls Tryz.prog 237 #[.int .u64 0] w fun e w'=>e=.returned (.int .i64 0)∧w=w':=by
 have e1:bits .and .u64 0 1=0:=by decide
 have e2:bits .xor .i64 0 0=0:=by decide
 go_enter Tryz.func237,Tryz.ntmps237
 go_wp2_with fail
 go_ret
 exact⟨rfl,rfl⟩
theorem zig237_1(w:World):Calls Tryz.prog 237 #[.int .u64 2] w fun e w'=>e=.returned (.int .i64 1)∧w=w':=by
 have e1:bits .and .u64 2 1=0:=by decide
 have e2:bits .xor .i64 1 0=1:=by decide
 go_enter Tryz.func237,Tryz.ntmps237
 go_wp2_with fail
 go_ret
 exact⟨rfl,rfl⟩
theorem zig237_2(w:World):Calls Tryz.prog 237 #[.int .u64 4] w fun e w'=>e=.returned (.int .i64 2)∧w=w':=by
 have e1:bits .and .u64 4 1=0:=by decide
 have e2:bits .xor .i64 2 0=2:=by decide
 go_enter Tryz.func237,Tryz.ntmps237
 go_wp2_with fail
 go_ret
 exact⟨rfl,rfl⟩
theorem zig237_3(w:World):Calls Tryz.prog 237 #[.int .u64 6] w fun e w'=>e=.returned (.int .i64 3)∧w=w':=by
 have e1:bits .and .u64 6 1=0:=by decide
 have e2:bits .xor .i64 3 0=3:=by decide
 go_enter Tryz.func237,Tryz.ntmps237
 go_wp2_with fail
 go_ret
 exact⟨rfl,rfl⟩
theorem zig237_4(w:World):Calls Tryz.prog 237 #[.int .u64 8] w fun e w'=>e=.returned (.int .i64 4)∧w=w':=by
 have e1:bits .and .u64 8 1=0:=by decide
 have e2:bits .xor .i64 4 0=4:=by decide
 go_enter Tryz.func237,Tryz.ntmps237
 go_wp2_with fail
 go_ret
 exact⟨rfl,rfl⟩
theorem zig237_5(w:World):Calls Tryz.prog 237 #[.int .u64 10] w fun e w'=>e=.returned (.int .i64 5)∧w=w':=by
 have e1:bits .and .u64 10 1=0:=by decide
 have e2:bits .xor .i64 5 0=5:=by decide
 go_enter Tryz.func237,Tryz.ntmps237
 go_wp2_with fail
 go_ret
 exact⟨rfl,rfl⟩
theorem zig237_6(w:World):Calls Tryz.prog 237 #[.int .u64 12] w fun e w'=>e=.returned (.int .i64 6)∧w=w':=by
 have e1:bits .and .u64 12 1=0:=by decide
 have e2:bits .xor .i64 6 0=6:=by decide
 go_enter Tryz.func237,Tryz.ntmps237
 go_wp2_with fail
 go_ret
 exact⟨rfl,rfl⟩
theorem zig237_7(w:World):Calls Tryz.prog 237 #[.int .u64 14] w fun e w'=>e=.returned (.int .i64 7)∧w=w':=by
 have e1:bits .and .u64 14 1=0:=by decide
 have e2:bits .xor .i64 7 0=7:=by decide
 go_enter Tryz.func237,Tryz.ntmps237
 go_wp2_with fail
 go_ret
 exact⟨rfl,rfl⟩
theorem zig237(p:Nat)(hp:p≤7)(w:World):Calls Tryz.prog 237 #[.int .u64 ((2*p:Nat):Int)] w fun e w'=>e=.returned (.int .i64 p)∧w=w':=by
 have hc:p=0∨p=1∨p=2∨p=3∨p=4∨p=5∨p=6∨p=7:=by omega
 rcases hc with rfl|rfl|rfl|rfl|rfl|rfl|rfl|rfl
 ·exact zig237_0 w
 ·exact zig237_1 w
 ·exact zig237_2 w
 ·exact zig237_3 w
 ·exact zig237_4 w
 ·exact zig237_5 w
 ·exact zig237_6 w
 ·exact zig237_7 w
def Pr.first (p:Pr) (kind xy:Nat):Pr:={ p with pos:=p.pos+1,kind:=kind,px:=xy,sc:=fun d=>if d=0 then tn xy else if d=1 then tn xy else p.sc d }
def StPost (pb tb tf tc:Nat) (T:List UInt8) (q:Pr) (w:World) (e:Ending) (w':World):Prop:=e=.returned .nilIface∧Hid (PrAt pb tb tf tc T q w'∧Fr (Eq pb) w w')
theorem and15b:∀c:Fin 256,bits .and .u8 (c.val:Int) 15=((c.val % 16:Nat):Int):=by decide
theorem first187{pb tb tf tc:Nat}{T:List UInt8}{p:Pr}{w:World}(h:PrAt pb tb tf tc T p w)(ht:TenTab w)(hp3:3≤pb){b0:UInt8}(hb:T[p.pos]?=some b0){xy:Nat}(hx:xy≤7)(hxy:b0.toNat / 16=2*xy):
  Calls Tryz.prog 187 #[.pointer (some ⟨pb,0,none⟩)] w (StPost pb tb tf tc T (p.first (b0.toNat % 16) xy) w):=by
 obtain⟨hlt,hb0⟩:=zL hb
 have hl:=h.len
 obtain⟨c,hc⟩:∃c:Nat,c=b0.toNat:=⟨_,rfl⟩
 have hcb:c < 256:=by rw[hc];exact b0.toNat_lt
 have cT:w.cell? ⟨tb,tf+p.pos,none⟩=some (.int .u8 (c:Int)):=by rw[hc,←hb0];exact h.txt p.pos hlt
 have e15:=and15b ⟨c,hcb⟩
 simp only at e15
 have e4:(c:Int) / 16=((2*xy:Nat):Int):=by rw[←hc] at hxy;omega
 rw[←hc]
 rw[←hc] at hxy
 have HXY:=zH hxy
 have HC:=zH hc
 have H:=zH h
 have HT:=zH ht
 have C237:=zH (zig237 xy hx)
 have C152:=zH (pow152 xy hx)
 have hsf:=st_fl
 have c0:=h.c0
 have c1:=h.c1
 have hle:(p.pos:Int) < (T.length:Int):=by omega
 have hle2:decide ((T.length:Int)≤(p.pos:Int))=false:=by simp;omega
 have hpl:(p.pos:Int)≤100000000:=by omega
 clear h ht hb hb0 hxy hc
 go_enter Tryz.func187,Tryz.ntmps187
 go_upto_region 1 with fail
 go_quiet (fail)
 generalize hw1:w.drewN _=w1
 have f1:ZF w w1:=by rw[←hw1];exact (Fr.refl _ w).drewN _
 have H1:=zH (H.out.keep f1)
 have cT1:=f1.cell cT (fun h=>h)
 have F1:=zH f1
 clear hw1 f1 c0 c1 cT
 have c0:=H1.out.c0
 have c1:=H1.out.c1
 go_upto_region 3 with fail
 go_quiet (fail)
 generalize hw2:w1.drewN _=w2
 have f2:ZF w1 w2:=by rw[←hw2];exact (Fr.refl _ w1).drewN _
 have H2:=zH (H1.out.keep f2)
 have F2:=zH f2
 clear hw2 f2 c0 c1 cT1
 have c1:=H2.out.c1
 have c2:=H2.out.c2
 have c5:=H2.out.c5
 have fz:=H2.out.fz
 go_upto_region 7 with (go_at_call 237;refine (C237.out _).mono ?_;rintro e w' ⟨rfl,rfl⟩)
 obtain⟨w3,hw3⟩:∃w3,w3=((w2.setCell ⟨pb,1,none⟩ (.int .i64 ((p.pos:Int)+1))).setCell ⟨pb,2,none⟩ (.int .i64 ((c:Int) % 16))).setCell ⟨pb,5,none⟩ (.int .i64 (xy:Int)):=⟨_,rfl⟩
 have hp3':=((H2.out.set 1 (.int .i64 ((p.pos:Int)+1)) { p with pos:=p.pos+1 } rfl (by show p.pos+1≤_;omega)).1.set 2 (.int .i64 ((c:Int) % 16)) { p with pos:=p.pos+1,kind:=c % 16 } rfl (by show p.pos+1≤_;omega)).1.set 5 (.int .i64 (xy:Int)) { p with pos:=p.pos+1,kind:=c % 16,px:=xy } rfl (by show p.pos+1≤_;omega)
 rw[←hw3] at hp3' ⊢
 have f3:Fr (Eq pb) w2 w3:=by rw[hw3];exact (((Fr.refl _ w2).setR _).setR _).setR _
 have H3:=zH hp3'.1
 have F3:=zH f3
 have T3:=zH ((((HT.out.fr F1.out (fun h=>h) (fun h=>h)).fr F2.out (fun h=>h) (fun h=>h))).fr f3 (by omega) (by omega))
 clear hw3 hp3' f3 c1 c2 c5 fz
 have c5:=H3.out.c5
 have c10:=H3.out.sc4 0 (by omega)
 have fz:=H3.out.fz
 obtain⟨v,hv⟩:∃v,v=tn xy:=⟨_,rfl⟩
 rw[←hv] at C152
 have C7:=zH (C152.out w3.drew T3.out)
 have HV:=zH hv
 clear hv
 go_region_with (go_at_call 152;(with_reducible refine C7.out.mono ?_);rintro e w' ⟨rfl,nq,rfl⟩)
 generalize hw4:World.setCell _ _ _=w4
 have hp4:=((H3.out.keep ((Fr.refl _ w3).drewN (1+nq))).set 10 (.float .f64 v) { p with pos:=p.pos+1,kind:=c % 16,px:=xy,sc:=fun d=>if d=0 then v else p.sc d } rfl H3.out.pos)
 rw[hw4] at hp4
 have H4:=zH hp4.1
 have F4:Hid (Fr (Eq pb) w3 w4):=((Fr.refl (Eq pb) w3).drewN (1+nq)).trans hp4.2
 have T4:=zH (T3.out.fr F4.out (by omega) (by omega))
 clear hw4 hp4 c5 c10 fz C7
 have c5:=H4.out.c5
 have c11:=H4.out.sc4 1 (by omega)
 have fz:=H4.out.fz
 have C8:=zH (C152.out w4.drew T4.out)
 go_wp2_with fail
 go_region_with (go_at_call 152;(with_reducible refine C8.out.mono ?_);rintro e w' ⟨rfl,nq2,rfl⟩)
 generalize hw5:World.setCell _ _ _=w5
 have hp5:=((H4.out.keep ((Fr.refl _ w4).drewN (1+nq2))).set 11 (.float .f64 v) { p with pos:=p.pos+1,kind:=c % 16,px:=xy,sc:=fun d=>if d=0 then v else if d=1 then v else p.sc d } rfl H4.out.pos)
 rw[hw5] at hp5
 have HF:Hid (PrAt pb tb tf tc T (p.first (c % 16) xy) w5∧Fr (Eq pb) w w5):=by
  refine⟨?_,((((F1.out.weak (fun _ h=>h.elim)).trans (F2.out.weak (fun _ h=>h.elim))).trans F3.out).trans F4.out).trans (((Fr.refl (Eq pb) w4).drewN (1+nq2)).trans hp5.2)⟩
  have h9:=hp5.1
  rw[HV.out] at h9
  exact h9
 clear hw5 hp5 c5 c11 fz C8
 go_wp2_with fail
 go_ret
 exact⟨rfl,HF.out⟩
open Go.RowKit
def Pr.meta (p:Pr) (c:Nat):Pr:={ p with pos:=p.pos+1,bb:=c % 2 == 1,si:=c / 2 % 2 == 1,ix:=c / 4 % 2 == 1,ex:=c / 8 % 2 == 1,em:=c / 16 % 2 == 1 }
theorem meta188{pb tb tf tc:Nat}{T:List UInt8}{p:Pr}{w:World}(h:PrAt pb tb tf tc T p w){b1:UInt8}(hb:T[p.pos]?=some b1):
  Calls Tryz.prog 188 #[.pointer (some ⟨pb,0,none⟩)] w (StPost pb tb tf tc T (p.meta b1.toNat) w):=by
 obtain⟨hlt,hb1⟩:=zL hb
 have hl:=h.len
 obtain⟨c,hc⟩:∃c:Nat,c=b1.toNat:=⟨_,rfl⟩
 have hcb:c < 256:=by rw[hc];exact b1.toNat_lt
 have cT:w.cell? ⟨tb,tf+p.pos,none⟩=some (.int .u8 (c:Int)):=by rw[hc,←hb1];exact h.txt p.pos hlt
 rw[←hc]
 obtain⟨a1,ha1⟩:∃a:Nat,a=c % 2:=⟨_,rfl⟩
 have e1:bits .and .i64 (c:Int) 1=(a1:Int):=by rw[ha1];exact and1 ⟨c,hcb⟩
 obtain⟨z1,hz1⟩:∃z,z=(c % 2 == 1):=⟨_,rfl⟩
 have t1:((a1:Int) != 0)=z1:=by rw[ha1,hz1];exact (by have:=bit_ne c 0;rw[Nat.zero_add,Nat.mul_one] at this;exact this)
 have HZ1:=zH hz1
 clear ha1 hz1
 obtain⟨a2,ha2⟩:∃a:Nat,a=c / 2 % 2*2:=⟨_,rfl⟩
 have e2:bits .and .i64 (c:Int) 2=(a2:Int):=by rw[ha2];exact and2 ⟨c,hcb⟩
 obtain⟨z2,hz2⟩:∃z,z=(c / 2 % 2 == 1):=⟨_,rfl⟩
 have t2:((a2:Int) != 0)=z2:=by rw[ha2,hz2];exact bit_ne (c / 2) 1
 have HZ2:=zH hz2
 clear ha2 hz2
 obtain⟨a4,ha4⟩:∃a:Nat,a=c / 4 % 2*4:=⟨_,rfl⟩
 have e4:bits .and .i64 (c:Int) 4=(a4:Int):=by rw[ha4];exact and4 ⟨c,hcb⟩
 obtain⟨z4,hz4⟩:∃z,z=(c / 4 % 2 == 1):=⟨_,rfl⟩
 have t4:((a4:Int) != 0)=z4:=by rw[ha4,hz4];exact bit_ne (c / 4) 3
 have HZ4:=zH hz4
 clear ha4 hz4
 obtain⟨a8,ha8⟩:∃a:Nat,a=c / 8 % 2*8:=⟨_,rfl⟩
 have e8:bits .and .i64 (c:Int) 8=(a8:Int):=by rw[ha8];exact and8 ⟨c,hcb⟩
 obtain⟨z8,hz8⟩:∃z,z=(c / 8 % 2 == 1):=⟨_,rfl⟩
 have t8:((a8:Int) != 0)=z8:=by rw[ha8,hz8];exact bit_ne (c / 8) 7
 have HZ8:=zH hz8
 clear ha8 hz8
 obtain⟨a16,ha16⟩:∃a:Nat,a=c / 16 % 2*16:=⟨_,rfl⟩
 have e16:bits .and .i64 (c:Int) 16=(a16:Int):=by rw[ha16];exact and16 ⟨c,hcb⟩
 obtain⟨z16,hz16⟩:∃z,z=(c / 16 % 2 == 1):=⟨_,rfl⟩
 have t16:((a16:Int) != 0)=z16:=by rw[ha16,hz16];exact bit_ne (c / 16) 15
 have HZ16:=zH hz16
 clear ha16 hz16
 have HC:=zH hc
 have H:=zH h
 have c0:=h.c0
 have c1:=h.c1
 have hle:(p.pos:Int) < (T.length:Int):=by omega
 have hle2:decide ((T.length:Int)≤(p.pos:Int))=false:=by simp;omega
 have hpl:(p.pos:Int)≤100000000:=by omega
 clear h hb hb1 hc
 go_enter Tryz.func188,Tryz.ntmps188
 go_upto_region 1 with fail
 go_quiet (fail)
 generalize hw1:w.drewN _=w1
 have f1:ZF w w1:=by rw[←hw1];exact (Fr.refl _ w).drewN _
 have H1:=zH (H.out.keep f1)
 have cT1:=f1.cell cT (fun h=>h)
 have F1:=zH f1
 clear hw1 f1 c0 c1 cT
 have c0:=H1.out.c0
 have c1:=H1.out.c1
 go_upto_region 3 with fail
 go_quiet (fail)
 generalize hw2:w1.drewN _=w2
 have f2:ZF w1 w2:=by rw[←hw2];exact (Fr.refl _ w1).drewN _
 have H2:=zH (H1.out.keep f2)
 have F2:=zH f2
 clear hw2 f2 c0 c1 cT1
 have c1:=H2.out.c1
 have fz:=H2.out.fz
 have q14:=H2.out.c14
 have q15:=H2.out.c15
 have q16:=H2.out.c16
 have q17:=H2.out.c17
 have q18:=H2.out.c18
 have HF:Hid (PrAt pb tb tf tc T (p.meta c) ((((((w2.setCell ⟨pb,1,none⟩ (.int .i64 ((p.pos:Int)+1))).setCell ⟨pb,14,none⟩ (.bool z1)).setCell ⟨pb,15,none⟩ (.bool z2)).setCell ⟨pb,16,none⟩ (.bool z4)).setCell ⟨pb,17,none⟩ (.bool z8)).setCell ⟨pb,18,none⟩ (.bool z16))∧Fr (Eq pb) w ((((((w2.setCell ⟨pb,1,none⟩ (.int .i64 ((p.pos:Int)+1))).setCell ⟨pb,14,none⟩ (.bool z1)).setCell ⟨pb,15,none⟩ (.bool z2)).setCell ⟨pb,16,none⟩ (.bool z4)).setCell ⟨pb,17,none⟩ (.bool z8)).setCell ⟨pb,18,none⟩ (.bool z16))):=by
  refine⟨?_,(((((((F1.out.weak (fun _ h=>h.elim)).trans (F2.out.weak (fun _ h=>h.elim))).setR _).setR _).setR _).setR _).setR _).setR _⟩
  have hl1:p.pos+1≤T.length:=by omega
  have x1:=(H2.out.set 1 (.int .i64 ((p.pos:Int)+1)) { p with pos:=p.pos+1 } rfl hl1).1
  have x2:=(x1.set 14 (.bool z1) { p with pos:=p.pos+1,bb:=z1 } rfl hl1).1
  have x3:=(x2.set 15 (.bool z2) { p with pos:=p.pos+1,bb:=z1,si:=z2 } rfl hl1).1
  have x4:=(x3.set 16 (.bool z4) { p with pos:=p.pos+1,bb:=z1,si:=z2,ix:=z4 } rfl hl1).1
  have x5:=(x4.set 17 (.bool z8) { p with pos:=p.pos+1,bb:=z1,si:=z2,ix:=z4,ex:=z8 } rfl hl1).1
  have x6:=(x5.set 18 (.bool z16) { p with pos:=p.pos+1,bb:=z1,si:=z2,ix:=z4,ex:=z8,em:=z16 } rfl hl1).1
  have e:p.meta c={ p with pos:=p.pos+1,bb:=z1,si:=z2,ix:=z4,ex:=z8,em:=z16 }:=by unfold Pr.meta;rw[HZ1.out,HZ2.out,HZ4.out,HZ8.out,HZ16.out]
  rw[e]
  exact x6
 go_wp2_with fail
 go_ret
 exact⟨rfl,HF.out⟩
theorem and7u:∀c:Fin 256,bits .and .u8 (c.val:Int) 7=((c.val % 8:Nat):Int):=by decide +kernel
theorem and1u:∀c:Fin 256,bits .and .u8 (c.val:Int) 1=((c.val % 2:Nat):Int)∧bits .and .u8 (c.val:Int) 2=((c.val / 2 % 2*2:Nat):Int):=by decide +kernel
def Pr.ext (p:Pr) (c:Nat):Pr:={ p with pos:=p.pos+1,dm:=c % 4,dims:=wd (c % 4),hz:=c % 2 == 1,hm:=c / 2 % 2 == 1,pz:=if c % 2=1 then c / 4 % 8 else p.pz,pm:=if c / 2 % 2=1 then c / 32 else p.pm,sc:=fun d=>if d=2 then (if c % 2=1 then tn (c / 4 % 8) else if c / 2 % 2=1 then tn (c / 32) else p.sc 2) else if d=3 then (if c % 4=3 then tn (c / 32) else p.sc 3) else p.sc d }
theorem ext189_0{pb tb tf tc:Nat}{T:List UInt8}{p:Pr}{w:World}(h:PrAt pb tb tf tc T p w)(ht:TenTab w)(_:3≤pb)(hi:p.hz=false∧p.hm=false∧p.dims=2){b1:UInt8}(hb:T[p.pos]?=some b1)(hdm:b1.toNat % 4=0):
  Calls Tryz.prog 189 #[.pointer (some ⟨pb,0,none⟩)] w (StPost pb tb tf tc T (p.ext b1.toNat) w):=by
 obtain⟨hlt,hb1⟩:=zL hb
 have hl:=h.len
 obtain⟨c,hc⟩:∃c:Nat,c=b1.toNat:=⟨_,rfl⟩
 have hcb:c < 256:=by rw[hc];exact b1.toNat_lt
 have cT:w.cell? ⟨tb,tf+p.pos,none⟩=some (.int .u8 (c:Int)):=by rw[hc,←hb1];exact h.txt p.pos hlt
 rw[←hc]
 have hd4:c % 4=0:=by rw[hc];exact hdm
 have hc2:c % 2=0:=by omega
 have hc22:c / 2 % 2=0:=by omega
 have a1:=and1u ⟨c,hcb⟩
 simp only at a1
 have e1:bits .and .u8 (c:Int) 1=0:=by rw[a1.1,hc2];rfl
 have e2:bits .and .u8 (c:Int) 2=0:=by rw[a1.2,hc22];rfl
 obtain⟨pz,hpz⟩:∃pz,pz=c / 4 % 8:=⟨_,rfl⟩
 have e7a:bits .and .u8 ((c:Int) / 4) 7=(pz:Int):=by
  have:=and7u ⟨c / 4,by omega⟩
  simp only at this
  rw[hpz,←this];rfl
 obtain⟨pm,hpm⟩:∃pm,pm=c / 32:=⟨_,rfl⟩
 have e7b:bits .and .u8 ((c:Int) / 32) 7=(pm:Int):=by
  have:=and7u ⟨c / 32,by omega⟩
  simp only at this
  rw[hpm,show c / 32=c / 32 % 8 by omega,←this];rfl
 have hpzb:pz≤7:=by omega
 have hpmb:pm≤7:=by omega
 have HPZ:=zH hpz
 have HPM:=zH hpm
 have HC2:=zH (⟨hd4,hc2,hc22⟩:_∧_∧_)
 have HT:=zH ht
 have HI:=zH hi
 clear a1 hpz hpm hd4 hc2 hc22 hdm ht hi
 have HC:=zH hc
 have H:=zH h
 have c0:=h.c0
 have c1:=h.c1
 have hle:(p.pos:Int) < (T.length:Int):=by omega
 have hle2:decide ((T.length:Int)≤(p.pos:Int))=false:=by simp;omega
 have hpl:(p.pos:Int)≤100000000:=by omega
 clear h hb hb1 hc
 go_enter Tryz.func189,Tryz.ntmps189
 go_upto_region 1 with fail
 go_quiet (fail)
 generalize hw1:w.drewN _=w1
 have f1:ZF w w1:=by rw[←hw1];exact (Fr.refl _ w).drewN _
 have H1:=zH (H.out.keep f1)
 have cT1:=f1.cell cT (fun h=>h)
 have F1:=zH f1
 clear hw1 f1 c0 c1 cT
 have c0:=H1.out.c0
 have c1:=H1.out.c1
 go_upto_region 3 with fail
 go_quiet (fail)
 generalize hw2:w1.drewN _=w2
 have f2:ZF w1 w2:=by rw[←hw2];exact (Fr.refl _ w1).drewN _
 have H2:=zH (H1.out.keep f2)
 have F2:=zH f2
 clear hw2 f2 c0 c1 cT1
 have c1:=H2.out.c1
 have fz:=H2.out.fz
 have q3:=H2.out.c3
 have q6:=H2.out.c6
 have q7:=H2.out.c7
 rw[HI.out.1] at q6
 rw[HI.out.2.1] at q7
 have q8:=H2.out.c8
 have q9:=H2.out.c9
 have q4:=H2.out.c4
 have hsf:=st_fl
 have hl1:p.pos+1≤T.length:=by omega
 have HF:Hid (PrAt pb tb tf tc T (p.ext c) ((w2.setCell ⟨pb,1,none⟩ (.int .i64 ((p.pos:Int)+1))).setCell ⟨pb,3,none⟩ (.int .u8 0))∧Fr (Eq pb) w ((w2.setCell ⟨pb,1,none⟩ (.int .i64 ((p.pos:Int)+1))).setCell ⟨pb,3,none⟩ (.int .u8 0))):=by
  have x0:=(H2.out.set 1 (.int .i64 ((p.pos:Int)+1)) { p with pos:=p.pos+1 } rfl hl1).1
  have x1:=(x0.set 3 (.int .u8 0) { p with pos:=p.pos+1,dm:=0 } rfl hl1).1
  refine⟨?_,((F1.out.weak (fun _ h=>h.elim)).trans (F2.out.weak (fun _ h=>h.elim))).trans (((Fr.refl (Eq pb) w2).setR _).setR _)⟩
  have e:p.ext c={ p with pos:=p.pos+1,dm:=0 }:=by
   unfold Pr.ext
   rw[HC2.out.1,HC2.out.2.1,HC2.out.2.2]
   obtain⟨i1,i2,i3⟩:=HI.out
   cases p
   simp only at i1 i2 i3
   subst i1 i2 i3
   simp[wd]
   funext d
   split
   ·next e=>subst e;rfl
   ·split
    ·next e=>subst e;rfl
    ·rfl
  rw[e]
  exact x1
 go_wp2_with fail
 go_ret
 exact⟨rfl,HF.out⟩
theorem ext189_1{pb tb tf tc:Nat}{T:List UInt8}{p:Pr}{w:World}(h:PrAt pb tb tf tc T p w)(ht:TenTab w)(hp3:3≤pb)(hi:p.hz=false∧p.hm=false∧p.dims=2){b1:UInt8}(hb:T[p.pos]?=some b1)(hdm:b1.toNat % 4=1):
  Calls Tryz.prog 189 #[.pointer (some ⟨pb,0,none⟩)] w (StPost pb tb tf tc T (p.ext b1.toNat) w):=by
 obtain⟨hlt,hb1⟩:=zL hb
 have hl:=h.len
 obtain⟨c,hc⟩:∃c:Nat,c=b1.toNat:=⟨_,rfl⟩
 have hcb:c < 256:=by rw[hc];exact b1.toNat_lt
 have cT:w.cell? ⟨tb,tf+p.pos,none⟩=some (.int .u8 (c:Int)):=by rw[hc,←hb1];exact h.txt p.pos hlt
 rw[←hc]
 have hd4:c % 4=1:=by rw[hc];exact hdm
 have hc2:c % 2=1:=by omega
 have hc22:c / 2 % 2=0:=by omega
 have a1:=and1u ⟨c,hcb⟩
 simp only at a1
 have e1:bits .and .u8 (c:Int) 1=1:=by rw[a1.1,hc2];rfl
 have e2:bits .and .u8 (c:Int) 2=0:=by rw[a1.2,hc22];rfl
 obtain⟨pz,hpz⟩:∃pz,pz=c / 4 % 8:=⟨_,rfl⟩
 have e7a:bits .and .u8 ((c:Int) / 4) 7=(pz:Int):=by
  have:=and7u ⟨c / 4,by omega⟩
  simp only at this
  rw[hpz,←this];rfl
 obtain⟨pm,hpm⟩:∃pm,pm=c / 32:=⟨_,rfl⟩
 have e7b:bits .and .u8 ((c:Int) / 32) 7=(pm:Int):=by
  have:=and7u ⟨c / 32,by omega⟩
  simp only at this
  rw[hpm,show c / 32=c / 32 % 8 by omega,←this];rfl
 have hpzb:pz≤7:=by omega
 have hpmb:pm≤7:=by omega
 have HPZ:=zH hpz
 have HPM:=zH hpm
 have HC2:=zH (⟨hd4,hc2,hc22⟩:_∧_∧_)
 have HT:=zH ht
 have HI:=zH hi
 clear a1 hpz hpm hd4 hc2 hc22 hdm ht hi
 have HC:=zH hc
 have H:=zH h
 have c0:=h.c0
 have c1:=h.c1
 have hle:(p.pos:Int) < (T.length:Int):=by omega
 have hle2:decide ((T.length:Int)≤(p.pos:Int))=false:=by simp;omega
 have hpl:(p.pos:Int)≤100000000:=by omega
 clear h hb hb1 hc
 go_enter Tryz.func189,Tryz.ntmps189
 go_upto_region 1 with fail
 go_quiet (fail)
 generalize hw1:w.drewN _=w1
 have f1:ZF w w1:=by rw[←hw1];exact (Fr.refl _ w).drewN _
 have H1:=zH (H.out.keep f1)
 have cT1:=f1.cell cT (fun h=>h)
 have F1:=zH f1
 clear hw1 f1 c0 c1 cT
 have c0:=H1.out.c0
 have c1:=H1.out.c1
 go_upto_region 3 with fail
 go_quiet (fail)
 generalize hw2:w1.drewN _=w2
 have f2:ZF w1 w2:=by rw[←hw2];exact (Fr.refl _ w1).drewN _
 have H2:=zH (H1.out.keep f2)
 have F2:=zH f2
 clear hw2 f2 c0 c1 cT1
 have c1:=H2.out.c1
 have fz:=H2.out.fz
 have q3:=H2.out.c3
 have q6:=H2.out.c6
 have q7:=H2.out.c7
 rw[HI.out.1] at q6
 rw[HI.out.2.1] at q7
 have q8:=H2.out.c8
 have q9:=H2.out.c9
 have q4:=H2.out.c4
 have hsf:=st_fl
 have hl1:p.pos+1≤T.length:=by omega
 have hz0:p.sc 2=p.sc 2:=rfl
 have x0:=(H2.out.set 1 (.int .i64 ((p.pos:Int)+1)) { p with pos:=p.pos+1 } rfl hl1).1
 have x1:=(x0.set 3 (.int .u8 0) { p with pos:=p.pos+1,dm:=0 } rfl hl1).1
 have x2:=(x1.set 6 (.bool true) { p with pos:=p.pos+1,dm:=0,hz:=true } rfl hl1).1
 have x3:=(x2.set 8 (.int .i64 (pz:Int)) { p with pos:=p.pos+1,dm:=0,hz:=true,pz:=pz } rfl hl1).1
 have x4:=(x3.set 3 (.int .u8 1) { p with pos:=p.pos+1,dm:=1,hz:=true,pz:=pz } rfl hl1).1
 have x5:=(x4.set 4 (.int .i64 3) { p with pos:=p.pos+1,dm:=1,hz:=true,pz:=pz,dims:=3 } rfl hl1).1
 go_upto_region 20 with fail
 have e3:((((((w2.setCell ⟨pb,1,none⟩ (.int .i64 ((p.pos:Int)+1))).setCell ⟨pb,3,none⟩ (.int .u8 0)).setCell ⟨pb,6,none⟩ (.bool true)).setCell ⟨pb,8,none⟩ (.int .i64 (pz:Int))).setCell ⟨pb,3,none⟩ (.int .u8 1)).setCell ⟨pb,4,none⟩ (.int .i64 3))=((((((w2.setCell ⟨pb,1,none⟩ (.int .i64 ((p.pos:Int)+1))).setCell ⟨pb,3,none⟩ (.int .u8 0)).setCell ⟨pb,6,none⟩ (.bool true)).setCell ⟨pb,8,none⟩ (.int .i64 (pz:Int))).setCell ⟨pb,3,none⟩ (.int .u8 1)).setCell ⟨pb,4,none⟩ (.int .i64 3)):=rfl
 generalize hw3:((((((w2.setCell ⟨pb,1,none⟩ (.int .i64 ((p.pos:Int)+1))).setCell ⟨pb,3,none⟩ (.int .u8 0)).setCell ⟨pb,6,none⟩ (.bool true)).setCell ⟨pb,8,none⟩ (.int .i64 (pz:Int))).setCell ⟨pb,3,none⟩ (.int .u8 1)).setCell ⟨pb,4,none⟩ (.int .i64 3))=w3 at e3 ⊢
 rw[hw3] at x5
 have H3:=zH x5
 have F3:Hid (Fr (Eq pb) w2 w3):=by
  show Fr _ _ _
  rw[←hw3]
  exact (((((((Fr.refl (Eq pb) w2).setR _).setR _).setR _).setR _).setR _).setR _)
 have T3:=zH ((((HT.out.fr F1.out (fun h=>h) (fun h=>h)).fr F2.out (fun h=>h) (fun h=>h))).fr F3.out (by omega) (by omega))
 clear hw3 e3 x0 x1 x2 x3 x4 x5 c1 q3 q6 q7 q8 q9 q4 fz hz0
 have q8:=H3.out.c8
 have q9:=H3.out.c9
 have c12:=H3.out.sc4 2 (by omega)
 have fz:=H3.out.fz
 obtain⟨v,hv⟩:∃v,v=tn pz:=⟨_,rfl⟩
 have C7:Hid (Calls Tryz.prog 152 #[.int .i64 pz] w3.drew fun e w'=>e=.returned (.float .f64 v)∧∃n,w'=w3.drew.drewN n):=by show Calls _ _ _ _ _;rw[hv];exact pow152 pz hpzb w3.drew T3.out
 have HV:=zH hv
 clear hv
 go_region_with (go_at_call 152;(with_reducible refine C7.out.mono ?_);rintro e w' ⟨rfl,nq,rfl⟩)
 generalize hw4:World.setCell _ _ _=w4
 have hp4:=((H3.out.keep ((Fr.refl _ w3).drewN (1+nq))).set 12 (.float .f64 v) { p with pos:=p.pos+1,dm:=1,hz:=true,pz:=pz,dims:=3,sc:=fun d=>if d=2 then v else p.sc d } rfl H3.out.pos)
 rw[hw4] at hp4
 have H4:=zH hp4.1
 have F4:Hid (Fr (Eq pb) w3 w4):=((Fr.refl (Eq pb) w3).drewN (1+nq)).trans hp4.2
 clear hw4 hp4 q8 q9 c12 fz C7
 have HF:Hid (PrAt pb tb tf tc T (p.ext c) w4∧Fr (Eq pb) w w4):=by
  refine⟨?_,(((((F1.out.weak (fun _ h=>h.elim)).trans (F2.out.weak (fun _ h=>h.elim)))).trans F3.out).trans F4.out)⟩
  have e:p.ext c={ p with pos:=p.pos+1,dm:=1,hz:=true,pz:=pz,dims:=3,sc:=fun d=>if d=2 then v else p.sc d }:=by
   unfold Pr.ext
   rw[HC2.out.1,HC2.out.2.1,HC2.out.2.2,HV.out,HPZ.out]
   obtain⟨i1,i2,i3⟩:=HI.out
   cases p
   simp only at i1 i2 i3
   subst i1 i2 i3
   simp[wd]
   funext d
   split
   ·rfl
   ·split
    ·next e=>subst e;rfl
    ·rfl
  rw[e]
  exact H4.out
 go_wp2_with fail
 go_ret
 exact⟨rfl,HF.out⟩
theorem ext189_2{pb tb tf tc:Nat}{T:List UInt8}{p:Pr}{w:World}(h:PrAt pb tb tf tc T p w)(ht:TenTab w)(hp3:3≤pb)(hi:p.hz=false∧p.hm=false∧p.dims=2){b1:UInt8}(hb:T[p.pos]?=some b1)(hdm:b1.toNat % 4=2):
  Calls Tryz.prog 189 #[.pointer (some ⟨pb,0,none⟩)] w (StPost pb tb tf tc T (p.ext b1.toNat) w):=by
 obtain⟨hlt,hb1⟩:=zL hb
 have hl:=h.len
 obtain⟨c,hc⟩:∃c:Nat,c=b1.toNat:=⟨_,rfl⟩
 have hcb:c < 256:=by rw[hc];exact b1.toNat_lt
 have cT:w.cell? ⟨tb,tf+p.pos,none⟩=some (.int .u8 (c:Int)):=by rw[hc,←hb1];exact h.txt p.pos hlt
 rw[←hc]
 have hd4:c % 4=2:=by rw[hc];exact hdm
 have hc2:c % 2=0:=by omega
 have hc22:c / 2 % 2=1:=by omega
 have a1:=and1u ⟨c,hcb⟩
 simp only at a1
 have e1:bits .and .u8 (c:Int) 1=0:=by rw[a1.1,hc2];rfl
 have e2:bits .and .u8 (c:Int) 2=2:=by rw[a1.2,hc22];rfl
 obtain⟨pz,hpz⟩:∃pz,pz=c / 4 % 8:=⟨_,rfl⟩
 have e7a:bits .and .u8 ((c:Int) / 4) 7=(pz:Int):=by
  have:=and7u ⟨c / 4,by omega⟩
  simp only at this
  rw[hpz,←this];rfl
 obtain⟨pm,hpm⟩:∃pm,pm=c / 32:=⟨_,rfl⟩
 have e7b:bits .and .u8 ((c:Int) / 32) 7=(pm:Int):=by
  have:=and7u ⟨c / 32,by omega⟩
  simp only at this
  rw[hpm,show c / 32=c / 32 % 8 by omega,←this];rfl
 have hpzb:pz≤7:=by omega
 have hpmb:pm≤7:=by omega
 have HPZ:=zH hpz
 have HPM:=zH hpm
 have HC2:=zH (⟨hd4,hc2,hc22⟩:_∧_∧_)
 have HT:=zH ht
 have HI:=zH hi
 clear a1 hpz hpm hd4 hc2 hc22 hdm ht hi
 have HC:=zH hc
 have H:=zH h
 have c0:=h.c0
 have c1:=h.c1
 have hle:(p.pos:Int) < (T.length:Int):=by omega
 have hle2:decide ((T.length:Int)≤(p.pos:Int))=false:=by simp;omega
 have hpl:(p.pos:Int)≤100000000:=by omega
 clear h hb hb1 hc
 go_enter Tryz.func189,Tryz.ntmps189
 go_upto_region 1 with fail
 go_quiet (fail)
 generalize hw1:w.drewN _=w1
 have f1:ZF w w1:=by rw[←hw1];exact (Fr.refl _ w).drewN _
 have H1:=zH (H.out.keep f1)
 have cT1:=f1.cell cT (fun h=>h)
 have F1:=zH f1
 clear hw1 f1 c0 c1 cT
 have c0:=H1.out.c0
 have c1:=H1.out.c1
 go_upto_region 3 with fail
 go_quiet (fail)
 generalize hw2:w1.drewN _=w2
 have f2:ZF w1 w2:=by rw[←hw2];exact (Fr.refl _ w1).drewN _
 have H2:=zH (H1.out.keep f2)
 have F2:=zH f2
 clear hw2 f2 c0 c1 cT1
 have c1:=H2.out.c1
 have fz:=H2.out.fz
 have q3:=H2.out.c3
 have q6:=H2.out.c6
 have q7:=H2.out.c7
 rw[HI.out.1] at q6
 rw[HI.out.2.1] at q7
 have q8:=H2.out.c8
 have q9:=H2.out.c9
 have q4:=H2.out.c4
 have hsf:=st_fl
 have hl1:p.pos+1≤T.length:=by omega
 have hz0:p.sc 2=p.sc 2:=rfl
 have x0:=(H2.out.set 1 (.int .i64 ((p.pos:Int)+1)) { p with pos:=p.pos+1 } rfl hl1).1
 have x1:=(x0.set 3 (.int .u8 0) { p with pos:=p.pos+1,dm:=0 } rfl hl1).1
 have x2:=(x1.set 7 (.bool true) { p with pos:=p.pos+1,dm:=0,hm:=true } rfl hl1).1
 have x3:=(x2.set 9 (.int .i64 (pm:Int)) { p with pos:=p.pos+1,dm:=0,hm:=true,pm:=pm } rfl hl1).1
 have x4:=(x3.set 3 (.int .u8 2) { p with pos:=p.pos+1,dm:=2,hm:=true,pm:=pm } rfl hl1).1
 have x5:=(x4.set 4 (.int .i64 3) { p with pos:=p.pos+1,dm:=2,hm:=true,pm:=pm,dims:=3 } rfl hl1).1
 go_upto_region 24 with fail
 have e3:((((((w2.setCell ⟨pb,1,none⟩ (.int .i64 ((p.pos:Int)+1))).setCell ⟨pb,3,none⟩ (.int .u8 0)).setCell ⟨pb,7,none⟩ (.bool true)).setCell ⟨pb,9,none⟩ (.int .i64 (pm:Int))).setCell ⟨pb,3,none⟩ (.int .u8 2)).setCell ⟨pb,4,none⟩ (.int .i64 3))=((((((w2.setCell ⟨pb,1,none⟩ (.int .i64 ((p.pos:Int)+1))).setCell ⟨pb,3,none⟩ (.int .u8 0)).setCell ⟨pb,7,none⟩ (.bool true)).setCell ⟨pb,9,none⟩ (.int .i64 (pm:Int))).setCell ⟨pb,3,none⟩ (.int .u8 2)).setCell ⟨pb,4,none⟩ (.int .i64 3)):=rfl
 generalize hw3:((((((w2.setCell ⟨pb,1,none⟩ (.int .i64 ((p.pos:Int)+1))).setCell ⟨pb,3,none⟩ (.int .u8 0)).setCell ⟨pb,7,none⟩ (.bool true)).setCell ⟨pb,9,none⟩ (.int .i64 (pm:Int))).setCell ⟨pb,3,none⟩ (.int .u8 2)).setCell ⟨pb,4,none⟩ (.int .i64 3))=w3 at e3 ⊢
 rw[hw3] at x5
 have H3:=zH x5
 have F3:Hid (Fr (Eq pb) w2 w3):=by
  show Fr _ _ _
  rw[←hw3]
  exact (((((((Fr.refl (Eq pb) w2).setR _).setR _).setR _).setR _).setR _).setR _)
 have T3:=zH ((((HT.out.fr F1.out (fun h=>h) (fun h=>h)).fr F2.out (fun h=>h) (fun h=>h))).fr F3.out (by omega) (by omega))
 clear hw3 e3 x0 x1 x2 x3 x4 x5 c1 q3 q6 q7 q8 q9 q4 fz hz0
 have q8:=H3.out.c8
 have q9:=H3.out.c9
 have c12:=H3.out.sc4 2 (by omega)
 have fz:=H3.out.fz
 obtain⟨v,hv⟩:∃v,v=tn pm:=⟨_,rfl⟩
 have C7:Hid (Calls Tryz.prog 152 #[.int .i64 pm] w3.drew fun e w'=>e=.returned (.float .f64 v)∧∃n,w'=w3.drew.drewN n):=by show Calls _ _ _ _ _;rw[hv];exact pow152 pm hpmb w3.drew T3.out
 have HV:=zH hv
 clear hv
 go_region_with (go_at_call 152;(with_reducible refine C7.out.mono ?_);rintro e w' ⟨rfl,nq,rfl⟩)
 generalize hw4:World.setCell _ _ _=w4
 have hp4:=((H3.out.keep ((Fr.refl _ w3).drewN (1+nq))).set 12 (.float .f64 v) { p with pos:=p.pos+1,dm:=2,hm:=true,pm:=pm,dims:=3,sc:=fun d=>if d=2 then v else p.sc d } rfl H3.out.pos)
 rw[hw4] at hp4
 have H4:=zH hp4.1
 have F4:Hid (Fr (Eq pb) w3 w4):=((Fr.refl (Eq pb) w3).drewN (1+nq)).trans hp4.2
 clear hw4 hp4 q8 q9 c12 fz C7
 have HF:Hid (PrAt pb tb tf tc T (p.ext c) w4∧Fr (Eq pb) w w4):=by
  refine⟨?_,(((((F1.out.weak (fun _ h=>h.elim)).trans (F2.out.weak (fun _ h=>h.elim)))).trans F3.out).trans F4.out)⟩
  have e:p.ext c={ p with pos:=p.pos+1,dm:=2,hm:=true,pm:=pm,dims:=3,sc:=fun d=>if d=2 then v else p.sc d }:=by
   unfold Pr.ext
   rw[HC2.out.1,HC2.out.2.1,HC2.out.2.2,HV.out,HPM.out]
   obtain⟨i1,i2,i3⟩:=HI.out
   cases p
   simp only at i1 i2 i3
   subst i1 i2 i3
   simp[wd]
   funext d
   split
   ·rfl
   ·split
    ·next e=>subst e;rfl
    ·rfl
  rw[e]
  exact H4.out
 go_wp2_with fail
 go_ret
 exact⟨rfl,HF.out⟩
theorem ext189_3{pb tb tf tc:Nat}{T:List UInt8}{p:Pr}{w:World}(h:PrAt pb tb tf tc T p w)(ht:TenTab w)(hp3:3≤pb)(hi:p.hz=false∧p.hm=false∧p.dims=2){b1:UInt8}(hb:T[p.pos]?=some b1)(hdm:b1.toNat % 4=3):
  Calls Tryz.prog 189 #[.pointer (some ⟨pb,0,none⟩)] w (StPost pb tb tf tc T (p.ext b1.toNat) w):=by
 obtain⟨hlt,hb1⟩:=zL hb
 have hl:=h.len
 obtain⟨c,hc⟩:∃c:Nat,c=b1.toNat:=⟨_,rfl⟩
 have hcb:c < 256:=by rw[hc];exact b1.toNat_lt
 have cT:w.cell? ⟨tb,tf+p.pos,none⟩=some (.int .u8 (c:Int)):=by rw[hc,←hb1];exact h.txt p.pos hlt
 rw[←hc]
 have hd4:c % 4=3:=by rw[hc];exact hdm
 have hc2:c % 2=1:=by omega
 have hc22:c / 2 % 2=1:=by omega
 have a1:=and1u ⟨c,hcb⟩
 simp only at a1
 have e1:bits .and .u8 (c:Int) 1=1:=by rw[a1.1,hc2];rfl
 have e2:bits .and .u8 (c:Int) 2=2:=by rw[a1.2,hc22];rfl
 obtain⟨pz,hpz⟩:∃pz,pz=c / 4 % 8:=⟨_,rfl⟩
 have e7a:bits .and .u8 ((c:Int) / 4) 7=(pz:Int):=by
  have:=and7u ⟨c / 4,by omega⟩
  simp only at this
  rw[hpz,←this];rfl
 obtain⟨pm,hpm⟩:∃pm,pm=c / 32:=⟨_,rfl⟩
 have e7b:bits .and .u8 ((c:Int) / 32) 7=(pm:Int):=by
  have:=and7u ⟨c / 32,by omega⟩
  simp only at this
  rw[hpm,show c / 32=c / 32 % 8 by omega,←this];rfl
 have hpzb:pz≤7:=by omega
 have hpmb:pm≤7:=by omega
 have HPZ:=zH hpz
 have HPM:=zH hpm
 have HC2:=zH (⟨hd4,hc2,hc22⟩:_∧_∧_)
 have HT:=zH ht
 have HI:=zH hi
 clear a1 hpz hpm hd4 hc2 hc22 hdm ht hi
 have HC:=zH hc
 have H:=zH h
 have c0:=h.c0
 have c1:=h.c1
 have hle:(p.pos:Int) < (T.length:Int):=by omega
 have hle2:decide ((T.length:Int)≤(p.pos:Int))=false:=by simp;omega
 have hpl:(p.pos:Int)≤100000000:=by omega
 clear h hb hb1 hc
 go_enter Tryz.func189,Tryz.ntmps189
 go_upto_region 1 with fail
 go_quiet (fail)
 generalize hw1:w.drewN _=w1
 have f1:ZF w w1:=by rw[←hw1];exact (Fr.refl _ w).drewN _
 have H1:=zH (H.out.keep f1)
 have cT1:=f1.cell cT (fun h=>h)
 have F1:=zH f1
 clear hw1 f1 c0 c1 cT
 have c0:=H1.out.c0
 have c1:=H1.out.c1
 go_upto_region 3 with fail
 go_quiet (fail)
 generalize hw2:w1.drewN _=w2
 have f2:ZF w1 w2:=by rw[←hw2];exact (Fr.refl _ w1).drewN _
 have H2:=zH (H1.out.keep f2)
 have F2:=zH f2
 clear hw2 f2 c0 c1 cT1
 have c1:=H2.out.c1
 have fz:=H2.out.fz
 have q3:=H2.out.c3
 have q6:=H2.out.c6
 have q7:=H2.out.c7
 rw[HI.out.1] at q6
 rw[HI.out.2.1] at q7
 have q8:=H2.out.c8
 have q9:=H2.out.c9
 have q4:=H2.out.c4
 have hsf:=st_fl
 have hl1:p.pos+1≤T.length:=by omega
 have hz0:p.sc 2=p.sc 2:=rfl
 have x0:=(H2.out.set 1 (.int .i64 ((p.pos:Int)+1)) { p with pos:=p.pos+1 } rfl hl1).1
 have x1:=(x0.set 3 (.int .u8 0) { p with pos:=p.pos+1,dm:=0 } rfl hl1).1
 have x2:=(x1.set 6 (.bool true) { p with pos:=p.pos+1,dm:=0,hz:=true } rfl hl1).1
 have x3:=(x2.set 8 (.int .i64 (pz:Int)) { p with pos:=p.pos+1,dm:=0,hz:=true,pz:=pz } rfl hl1).1
 have x4:=(x3.set 7 (.bool true) { p with pos:=p.pos+1,dm:=0,hz:=true,pz:=pz,hm:=true } rfl hl1).1
 have x5:=(x4.set 9 (.int .i64 (pm:Int)) { p with pos:=p.pos+1,dm:=0,hz:=true,pz:=pz,hm:=true,pm:=pm } rfl hl1).1
 have x6:=(x5.set 3 (.int .u8 3) { p with pos:=p.pos+1,dm:=3,hz:=true,pz:=pz,hm:=true,pm:=pm } rfl hl1).1
 have x7:=(x6.set 4 (.int .i64 4) { p with pos:=p.pos+1,dm:=3,hz:=true,pz:=pz,hm:=true,pm:=pm,dims:=4 } rfl hl1).1
 go_upto_region 15 with fail
 have e3:((((((((w2.setCell ⟨pb,1,none⟩ (.int .i64 ((p.pos:Int)+1))).setCell ⟨pb,3,none⟩ (.int .u8 0)).setCell ⟨pb,6,none⟩ (.bool true)).setCell ⟨pb,8,none⟩ (.int .i64 (pz:Int))).setCell ⟨pb,7,none⟩ (.bool true)).setCell ⟨pb,9,none⟩ (.int .i64 (pm:Int))).setCell ⟨pb,3,none⟩ (.int .u8 3)).setCell ⟨pb,4,none⟩ (.int .i64 4))=((((((((w2.setCell ⟨pb,1,none⟩ (.int .i64 ((p.pos:Int)+1))).setCell ⟨pb,3,none⟩ (.int .u8 0)).setCell ⟨pb,6,none⟩ (.bool true)).setCell ⟨pb,8,none⟩ (.int .i64 (pz:Int))).setCell ⟨pb,7,none⟩ (.bool true)).setCell ⟨pb,9,none⟩ (.int .i64 (pm:Int))).setCell ⟨pb,3,none⟩ (.int .u8 3)).setCell ⟨pb,4,none⟩ (.int .i64 4)):=rfl
 generalize hw3:((((((((w2.setCell ⟨pb,1,none⟩ (.int .i64 ((p.pos:Int)+1))).setCell ⟨pb,3,none⟩ (.int .u8 0)).setCell ⟨pb,6,none⟩ (.bool true)).setCell ⟨pb,8,none⟩ (.int .i64 (pz:Int))).setCell ⟨pb,7,none⟩ (.bool true)).setCell ⟨pb,9,none⟩ (.int .i64 (pm:Int))).setCell ⟨pb,3,none⟩ (.int .u8 3)).setCell ⟨pb,4,none⟩ (.int .i64 4))=w3 at e3 ⊢
 rw[hw3] at x7
 have H3:=zH x7
 have F3:Hid (Fr (Eq pb) w2 w3):=by
  show Fr _ _ _
  rw[←hw3]
  exact (((((((((Fr.refl (Eq pb) w2).setR _).setR _).setR _).setR _).setR _).setR _).setR _).setR _)
 have T3:=zH ((((HT.out.fr F1.out (fun h=>h) (fun h=>h)).fr F2.out (fun h=>h) (fun h=>h))).fr F3.out (by omega) (by omega))
 clear hw3 e3 x0 x1 x2 x3 x4 x5 x6 x7 c1 q3 q6 q7 q8 q9 q4 fz hz0
 have q8:=H3.out.c8
 have q9:=H3.out.c9
 have c12:=H3.out.sc4 2 (by omega)
 have fz:=H3.out.fz
 obtain⟨v,hv⟩:∃v,v=tn pz:=⟨_,rfl⟩
 have C7:Hid (Calls Tryz.prog 152 #[.int .i64 pz] w3.drew fun e w'=>e=.returned (.float .f64 v)∧∃n,w'=w3.drew.drewN n):=by show Calls _ _ _ _ _;rw[hv];exact pow152 pz hpzb w3.drew T3.out
 have HV:=zH hv
 clear hv
 go_region_with (go_at_call 152;(with_reducible refine C7.out.mono ?_);rintro e w' ⟨rfl,nq,rfl⟩)
 generalize hw4:World.setCell _ _ _=w4
 have hp4:=((H3.out.keep ((Fr.refl _ w3).drewN (1+nq))).set 12 (.float .f64 v) { p with pos:=p.pos+1,dm:=3,hz:=true,pz:=pz,hm:=true,pm:=pm,dims:=4,sc:=fun d=>if d=2 then v else p.sc d } rfl H3.out.pos)
 rw[hw4] at hp4
 have H4:=zH hp4.1
 have F4:Hid (Fr (Eq pb) w3 w4):=((Fr.refl (Eq pb) w3).drewN (1+nq)).trans hp4.2
 clear hw4 hp4 q8 q9 c12 fz C7
 have T4:=zH (T3.out.fr F4.out (by omega) (by omega))
 have q9:=H4.out.c9
 have c13:=H4.out.sc4 3 (by omega)
 have fz:=H4.out.fz
 obtain⟨v2,hv2⟩:∃v,v=tn pm:=⟨_,rfl⟩
 have C8:Hid (Calls Tryz.prog 152 #[.int .i64 pm] w4.drew fun e w'=>e=.returned (.float .f64 v2)∧∃n,w'=w4.drew.drewN n):=by show Calls _ _ _ _ _;rw[hv2];exact pow152 pm hpmb w4.drew T4.out
 have HV2:=zH hv2
 clear hv2
 go_wp2_with fail
 go_region_with (go_at_call 152;(with_reducible refine C8.out.mono ?_);rintro e w' ⟨rfl,nq2,rfl⟩)
 generalize hw5:World.setCell _ _ _=w5
 have hp5:=((H4.out.keep ((Fr.refl _ w4).drewN (1+nq2))).set 13 (.float .f64 v2) { p with pos:=p.pos+1,dm:=3,hz:=true,pz:=pz,hm:=true,pm:=pm,dims:=4,sc:=fun d=>if d=2 then v else if d=3 then v2 else p.sc d } rfl H4.out.pos)
 rw[hw5] at hp5
 have H5:=zH hp5.1
 have F5:Hid (Fr (Eq pb) w4 w5):=((Fr.refl (Eq pb) w4).drewN (1+nq2)).trans hp5.2
 clear hw5 hp5 q9 c13 fz C8
 have HF:Hid (PrAt pb tb tf tc T (p.ext c) w5∧Fr (Eq pb) w w5):=by
  refine⟨?_,((((((F1.out.weak (fun _ h=>h.elim)).trans (F2.out.weak (fun _ h=>h.elim)))).trans F3.out).trans F4.out).trans F5.out)⟩
  have e:p.ext c={ p with pos:=p.pos+1,dm:=3,hz:=true,pz:=pz,hm:=true,pm:=pm,dims:=4,sc:=fun d=>if d=2 then v else if d=3 then v2 else p.sc d }:=by
   unfold Pr.ext
   rw[HC2.out.1,HC2.out.2.1,HC2.out.2.2,HV.out,HV2.out,HPZ.out,HPM.out]
   obtain⟨i1,i2,i3⟩:=HI.out
   cases p
   simp only at i1 i2 i3
   subst i1 i2 i3
   simp[wd]
  rw[e]
  exact H5.out
 go_wp2_with fail
 go_ret
 exact⟨rfl,HF.out⟩
end Go.Proofs.YtnjjgbcmjnfijaaGreatDoor
