/- The package's reader of tiny bytes: a point. No condition. -/
import Derived.Test.YtnjjgbcmjnfijaaGreatDoorR2
import Derived.Maps.AppendAt
namespace Go.Proofs.YtnjjgbcmjnfijaaGreatDoor
set_option maxRecDepth 100000
set_option maxHeartbeats 4000000
open Go.RowKit
structure DmOk (p:Pr) (ps:List Int):Prop where
 le:p.dm≤3
 wd:ps.length=wd p.dm
 hz:p.hz=(p.dm % 2 == 1)
 hm:p.hm=(p.dm / 2 % 2 == 1)
def PtPost (pb tb tf tc:Nat) (T:List UInt8) (p:Pr) (xs:List (Int × Int)) (Q':List Int) (l':List UInt8) (w:World) (e:Ending) (w':World):Prop :=
 ∃x y z m:Nat,e=.returned (.tuple #[.agg #[.float .f64 x,.float .f64 y,.float .f64 z,.float .f64 m,.int .u8 p.dm,.bool true],.nilIface])∧∃(q:Nat) (rf:Nat→Int),Hid (xs.map flp=numsOf p.dm (x,y,z,m)∧p.pos≤q∧q≤T.length∧l'=T.drop q∧PrAt pb tb tf tc T { p with pos:=q,rf:=rf } w'∧RfOk rf Q'∧Fr (Eq pb) w w')
theorem fl_at{w:World}{g:Nat}{xs:List Nat}(h:w.heap[g]?=some (.cells (xs.map flv).toArray 40 (0,0)))(i:Nat)(hi:i < xs.length):w.cell? ⟨g,i,none⟩=some (.float .f64 (xs.getD i 0)):=by
 rw[zC h]
 simp[hi,flv]
theorem point192_0{pb tb tf tc:Nat}{T:List UInt8}{p:Pr}{w:World}(h:PrAt pb tb tf tc T p w)(htw:tb < w.heap.size){ps Q0 Q':List Int}{l':List UInt8}{xs:List (Int × Int)}(ho:ScOk p ps)(hrf:RfOk p.rf Q0)(hr:RowP ps Q0 1 (T.drop p.pos) xs Q' l')(hd:DmOk p ps)(hdm:p.dm=0):
  Calls Tryz.prog 192 #[.pointer (some ⟨pb,0,none⟩)] w (PtPost pb tb tf tc T p xs Q' l' w):=by
 have hpb:=h.lt
 obtain⟨w0,hw0⟩:∃w0,w0=(w.alloc (.cells #[.float .f64 0,.float .f64 0,.float .f64 0,.float .f64 0,.int .u8 0,.bool false] 115)).alloc (.cells #[.float .f64 0,.float .f64 0,.float .f64 0,.float .f64 0,.int .u8 0] 113):=⟨_,rfl⟩
 have f0:ZF w w0:=by rw[hw0];exact ((Fr.refl _ w).alloc _).alloc _
 have s1:(w.alloc (.cells #[.float .f64 0,.float .f64 0,.float .f64 0,.float .f64 0,.int .u8 0,.bool false] 115)).heap.size=w.heap.size+1:=by show (w.heap.push _).size=_;rw[Array.size_push]
 have s0:w0.heap.size=w.heap.size+2:=by rw[hw0];show ((w.alloc _).heap.push _).size=_;rw[Array.size_push,s1]
 have b0:w0.heap[w.heap.size]?=some (.cells #[.float .f64 0,.float .f64 0,.float .f64 0,.float .f64 0,.int .u8 0,.bool false] 115 (0,0)):=by rw[hw0];exact (Below.heap_alloc _ _ _ (by omega)).trans (zN w _)
 have b1:w0.heap[w.heap.size+1]?=some (.cells #[.float .f64 0,.float .f64 0,.float .f64 0,.float .f64 0,.int .u8 0] 113 (0,0)):=by rw[hw0,←s1];exact zN _ _
 have hpl:ps.length=2:=by rw[hd.wd,hdm];rfl
 have hxl:xs.length=2:=by rw[hr.len (by omega),hpl]
 have C240:Hid (Calls Tryz.prog 240 #[.pointer (some ⟨pb,0,none⟩),.int .i64 1] w0 fun e w'=>e=.returned (.tuple #[.slice (some ⟨w.heap.size+2,0,none⟩) 2 2,.nilIface])∧∃(q:Nat) (rf:Nat→Int),Hid (p.pos≤q∧q≤T.length∧l'=T.drop q∧PrAt pb tb tf tc T { p with pos:=q,rf:=rf } w'∧RfOk rf Q'∧Fr (Eq pb) w0 w'∧w'.heap[w.heap.size+2]?=some (.cells ((xs.map flp).map flv).toArray 40 (0,0)))):=(points240 (h.keep f0) (by omega) ho hrf hr (by decide)).mono (fun e w' h=>by
  unfold PaPost at h
  rw[hxl,s0] at h
  exact h)
 have hz:=hd.hz
 have hm:=hd.hm
 rw[hdm] at hz hm
 have hsf:=st_fl
 have c3:=h.c3
 rw[hdm] at c3
 have HW0:=zH hw0
 have F0:=zH f0
 have HB:=zH (⟨b0,b1⟩:_∧_)
 have HL:=zH hxl
 have HD:=zH hdm
 have HZ:=zH hz
 have HM:=zH hm
 obtain⟨x0,hx0⟩:∃x,x=(xs.map flp).getD 0 0:=⟨_,rfl⟩
 have HX0:=zH hx0
 clear hx0
 obtain⟨x1,hx1⟩:∃x,x=(xs.map flp).getD 1 0:=⟨_,rfl⟩
 have HX1:=zH hx1
 clear hx1
 clear h ho hrf hr hd hpl hxl f0 b0 b1 hw0 hdm hz hm s1
 go_enter Tryz.func192,Tryz.ntmps192
 go_upto_region 3 with fail
 rw[←HW0.out]
 go_upto_region 4 with (go_at_call 240;refine C240.out.mono ?_;rintro e w1 ⟨rfl,q1,rf1,h1⟩)
 have FE:Hid (Fr (Eq pb) w0 w1):=h1.out.2.2.2.2.2.1
 have HB1:Hid (w1.heap[w.heap.size]?=some (.cells #[.float .f64 0,.float .f64 0,.float .f64 0,.float .f64 0,.int .u8 0,.bool false] 115 (0,0))∧w1.heap[w.heap.size+1]?=some (.cells #[.float .f64 0,.float .f64 0,.float .f64 0,.float .f64 0,.int .u8 0] 113 (0,0))):=⟨(FE.out.block _ (by omega) (by omega)).trans HB.out.1,(FE.out.block _ (by omega) (by omega)).trans HB.out.2⟩
 have k0:w1.cell? ⟨w.heap.size+2,0,none⟩=some (.float .f64 x0):=by rw[HX0.out];exact fl_at h1.out.2.2.2.2.2.2 0 (by rw[List.length_map,HL.out];decide)
 have k1:w1.cell? ⟨w.heap.size+2,1,none⟩=some (.float .f64 x1):=by rw[HX1.out];exact fl_at h1.out.2.2.2.2.2.2 1 (by rw[List.length_map,HL.out];decide)
 have c6:=h1.out.2.2.2.1.c6
 have c7:=h1.out.2.2.2.1.c7
 rw[show ({ p with pos:=q1,rf:=rf1 }:Pr).hz=false from HZ.out] at c6
 rw[show ({ p with pos:=q1,rf:=rf1 }:Pr).hm=false from HM.out] at c7
 have g0:w1.cell? ⟨w.heap.size+1,0,none⟩=some (.float .f64 0):=by rw[zC HB1.out.2];rfl
 have g1:w1.cell? ⟨w.heap.size+1,1,none⟩=some (.float .f64 0):=by rw[zC HB1.out.2];rfl
 have g2:w1.cell? ⟨w.heap.size+1,2,none⟩=some (.float .f64 0):=by rw[zC HB1.out.2];rfl
 have g3:w1.cell? ⟨w.heap.size+1,3,none⟩=some (.float .f64 0):=by rw[zC HB1.out.2];rfl
 have gf:∀i,w1.frozen? ⟨w.heap.size+1,i,none⟩=false:=fun i=>zF HB1.out.2 i
 have n1:¬(w.heap.size+1=w.heap.size+2):=by omega
 have n2:¬(w.heap.size+1=pb):=by omega
 go_upto_region 15 with fail
 obtain⟨w2,hw2⟩:∃w2,w2=((w1.setCell ⟨w.heap.size+1,0,none⟩ (.float .f64 x0)).setCell ⟨w.heap.size+1,1,none⟩ (.float .f64 x1)):=⟨_,rfl⟩
 rw[←hw2]
 have B2:Hid (w2.heap[w.heap.size+1]?=some (.cells #[.float .f64 x0,.float .f64 x1,.float .f64 0,.float .f64 0,.int .u8 0] 113 (0,0))∧Fr (Eq (w.heap.size+1)) w1 w2):=by
  show _∧_
  rw[hw2]
  exact⟨Lib.heap_setCell_same (i:=1) (Lib.heap_setCell_same (i:=0) HB1.out.2 (.float .f64 x0)) (.float .f64 x1),(((Fr.refl (Eq (w.heap.size+1)) w1).setR (a:=⟨w.heap.size+1,0,none⟩) _).setR (a:=⟨w.heap.size+1,1,none⟩) _)⟩
 have hr2:w2.heap[w.heap.size]?=some (.cells #[.float .f64 0,.float .f64 0,.float .f64 0,.float .f64 0,.int .u8 0,.bool false] 115 (0,0)):=(B2.out.2.block _ (zG HB1.out.1).1 (by omega)).trans HB1.out.1
 clear hw2 c6 c7 g0 g1 g2 g3 gf k0 k1
 have e0:w2.cell? ⟨w.heap.size+1,0,none⟩=some (.float .f64 x0):=by rw[zC B2.out.1];rfl
 have e1:w2.cell? ⟨w.heap.size+1,1,none⟩=some (.float .f64 x1):=by rw[zC B2.out.1];rfl
 have e2:w2.cell? ⟨w.heap.size+1,2,none⟩=some (.float .f64 0):=by rw[zC B2.out.1];rfl
 have e3:w2.cell? ⟨w.heap.size+1,3,none⟩=some (.float .f64 0):=by rw[zC B2.out.1];rfl
 have e4:w2.cell? ⟨w.heap.size+1,4,none⟩=some (.int .u8 0):=by rw[zC B2.out.1];rfl
 have al2:∀A B,((w2.alloc A).alloc B).heap[w.heap.size]?=some (.cells #[.float .f64 0,.float .f64 0,.float .f64 0,.float .f64 0,.int .u8 0,.bool false] 115 (0,0)):=fun A B=>(((Fr.refl (fun _=>False) w2).alloc A).alloc B).block _ (zG hr2).1 (fun h=>h) |>.trans hr2
 have r0:∀A B,((w2.alloc A).alloc B).cell? ⟨w.heap.size,0,none⟩=some (.float .f64 0):=fun A B=>by rw[zC (al2 A B)];rfl
 have r1:∀A B,((w2.alloc A).alloc B).cell? ⟨w.heap.size,1,none⟩=some (.float .f64 0):=fun A B=>by rw[zC (al2 A B)];rfl
 have r2:∀A B,((w2.alloc A).alloc B).cell? ⟨w.heap.size,2,none⟩=some (.float .f64 0):=fun A B=>by rw[zC (al2 A B)];rfl
 have r3:∀A B,((w2.alloc A).alloc B).cell? ⟨w.heap.size,3,none⟩=some (.float .f64 0):=fun A B=>by rw[zC (al2 A B)];rfl
 have r4:∀A B,((w2.alloc A).alloc B).cell? ⟨w.heap.size,4,none⟩=some (.int .u8 0):=fun A B=>by rw[zC (al2 A B)];rfl
 have r5:∀A B,((w2.alloc A).alloc B).cell? ⟨w.heap.size,5,none⟩=some (.bool false):=fun A B=>by rw[zC (al2 A B)];rfl
 have rf:∀A B i,((w2.alloc A).alloc B).frozen? ⟨w.heap.size,i,none⟩=false:=fun A B i=>zF (al2 A B) i
 have C159:=zH ac159
 clear al2
 go_wp2_with (go_at_call 159;refine (C159.out _ _ _ _ _ _).mono ?_;rintro e w3 ⟨rfl,rfl⟩)
 refine bodyPost_ret (v:=.tuple #[.agg #[.float .f64 x0,.float .f64 x1,.float .f64 0,.float .f64 0,.int .u8 0,.bool true],.nilIface]) (by simp[results,Tryz.f192,go_sem,r0,r1,r2,r3,r4,r5]) rfl ?_
 obtain⟨a1,a2,a3,a4,a5,a6,a7⟩:=h1.out
 have fS:∀A B v0 v1 v2 v3 v4 v5,Fr (Eq w.heap.size) w2 ((((((((w2.alloc A).alloc B).setCell ⟨w.heap.size,0,none⟩ v0).setCell ⟨w.heap.size,1,none⟩ v1).setCell ⟨w.heap.size,2,none⟩ v2).setCell ⟨w.heap.size,3,none⟩ v3).setCell ⟨w.heap.size,4,none⟩ v4).setCell ⟨w.heap.size,5,none⟩ v5):=fun A B v0 v1 v2 v3 v4 v5=>((((((((Fr.refl _ w2).alloc A).alloc B).setR v0).setR v1).setR v2).setR v3).setR v4).setR v5
 have fS':=fS (.cells #[.float .f64 x0,.float .f64 x1,.float .f64 0,.float .f64 0,.int .u8 0] 113) (.cells #[.float .f64 x0,.float .f64 x1,.float .f64 0,.float .f64 0,.int .u8 0,.bool true] 115) (.float .f64 x0) (.float .f64 x1) (.float .f64 0) (.float .f64 0) (.int .u8 0) (.bool true)
 refine⟨x0,x1,0,0,by rw[HD.out];rfl,q1,rf1,?_,a1,a2,a3,(a4.fr B2.out.2 (by omega) (by omega)).fr fS' (by omega) (by omega),a5,?_⟩
 ·rw[HD.out]
  obtain⟨ys,hys⟩:∃ys,ys=xs.map flp:=⟨_,rfl⟩
  have hyl:ys.length=2:=by rw[hys,List.length_map,HL.out]
  rw[HX0.out,HX1.out,←hys]
  match ys,hyl with
  | [a,b],_=>rfl
 ·exact (((F0.out.weak (fun _ h=>h.elim)).trans a6).transNew B2.out.2 (fun b e=>.inl (by omega))).transNew fS' (fun b e=>.inl (by omega))
theorem point192_1{pb tb tf tc:Nat}{T:List UInt8}{p:Pr}{w:World}(h:PrAt pb tb tf tc T p w)(htw:tb < w.heap.size){ps Q0 Q':List Int}{l':List UInt8}{xs:List (Int × Int)}(ho:ScOk p ps)(hrf:RfOk p.rf Q0)(hr:RowP ps Q0 1 (T.drop p.pos) xs Q' l')(hd:DmOk p ps)(hdm:p.dm=1):
  Calls Tryz.prog 192 #[.pointer (some ⟨pb,0,none⟩)] w (PtPost pb tb tf tc T p xs Q' l' w):=by
 have hpb:=h.lt
 obtain⟨w0,hw0⟩:∃w0,w0=(w.alloc (.cells #[.float .f64 0,.float .f64 0,.float .f64 0,.float .f64 0,.int .u8 0,.bool false] 115)).alloc (.cells #[.float .f64 0,.float .f64 0,.float .f64 0,.float .f64 0,.int .u8 1] 113):=⟨_,rfl⟩
 have f0:ZF w w0:=by rw[hw0];exact ((Fr.refl _ w).alloc _).alloc _
 have s1:(w.alloc (.cells #[.float .f64 0,.float .f64 0,.float .f64 0,.float .f64 0,.int .u8 0,.bool false] 115)).heap.size=w.heap.size+1:=by show (w.heap.push _).size=_;rw[Array.size_push]
 have s0:w0.heap.size=w.heap.size+2:=by rw[hw0];show ((w.alloc _).heap.push _).size=_;rw[Array.size_push,s1]
 have b0:w0.heap[w.heap.size]?=some (.cells #[.float .f64 0,.float .f64 0,.float .f64 0,.float .f64 0,.int .u8 0,.bool false] 115 (0,0)):=by rw[hw0];exact (Below.heap_alloc _ _ _ (by omega)).trans (zN w _)
 have b1:w0.heap[w.heap.size+1]?=some (.cells #[.float .f64 0,.float .f64 0,.float .f64 0,.float .f64 0,.int .u8 1] 113 (0,0)):=by rw[hw0,←s1];exact zN _ _
 have hpl:ps.length=3:=by rw[hd.wd,hdm];rfl
 have hxl:xs.length=3:=by rw[hr.len (by omega),hpl]
 have C240:Hid (Calls Tryz.prog 240 #[.pointer (some ⟨pb,0,none⟩),.int .i64 1] w0 fun e w'=>e=.returned (.tuple #[.slice (some ⟨w.heap.size+2,0,none⟩) 3 3,.nilIface])∧∃(q:Nat) (rf:Nat→Int),Hid (p.pos≤q∧q≤T.length∧l'=T.drop q∧PrAt pb tb tf tc T { p with pos:=q,rf:=rf } w'∧RfOk rf Q'∧Fr (Eq pb) w0 w'∧w'.heap[w.heap.size+2]?=some (.cells ((xs.map flp).map flv).toArray 40 (0,0)))):=(points240 (h.keep f0) (by omega) ho hrf hr (by decide)).mono (fun e w' h=>by
  unfold PaPost at h
  rw[hxl,s0] at h
  exact h)
 have hz:=hd.hz
 have hm:=hd.hm
 rw[hdm] at hz hm
 have hsf:=st_fl
 have c3:=h.c3
 rw[hdm] at c3
 have HW0:=zH hw0
 have F0:=zH f0
 have HB:=zH (⟨b0,b1⟩:_∧_)
 have HL:=zH hxl
 have HD:=zH hdm
 have HZ:=zH hz
 have HM:=zH hm
 obtain⟨x0,hx0⟩:∃x,x=(xs.map flp).getD 0 0:=⟨_,rfl⟩
 have HX0:=zH hx0
 clear hx0
 obtain⟨x1,hx1⟩:∃x,x=(xs.map flp).getD 1 0:=⟨_,rfl⟩
 have HX1:=zH hx1
 clear hx1
 obtain⟨x2,hx2⟩:∃x,x=(xs.map flp).getD 2 0:=⟨_,rfl⟩
 have HX2:=zH hx2
 clear hx2
 clear h ho hrf hr hd hpl hxl f0 b0 b1 hw0 hdm hz hm s1
 go_enter Tryz.func192,Tryz.ntmps192
 go_upto_region 3 with fail
 rw[←HW0.out]
 go_upto_region 4 with (go_at_call 240;refine C240.out.mono ?_;rintro e w1 ⟨rfl,q1,rf1,h1⟩)
 have FE:Hid (Fr (Eq pb) w0 w1):=h1.out.2.2.2.2.2.1
 have HB1:Hid (w1.heap[w.heap.size]?=some (.cells #[.float .f64 0,.float .f64 0,.float .f64 0,.float .f64 0,.int .u8 0,.bool false] 115 (0,0))∧w1.heap[w.heap.size+1]?=some (.cells #[.float .f64 0,.float .f64 0,.float .f64 0,.float .f64 0,.int .u8 1] 113 (0,0))):=⟨(FE.out.block _ (by omega) (by omega)).trans HB.out.1,(FE.out.block _ (by omega) (by omega)).trans HB.out.2⟩
 have k0:w1.cell? ⟨w.heap.size+2,0,none⟩=some (.float .f64 x0):=by rw[HX0.out];exact fl_at h1.out.2.2.2.2.2.2 0 (by rw[List.length_map,HL.out];decide)
 have k1:w1.cell? ⟨w.heap.size+2,1,none⟩=some (.float .f64 x1):=by rw[HX1.out];exact fl_at h1.out.2.2.2.2.2.2 1 (by rw[List.length_map,HL.out];decide)
 have k2:w1.cell? ⟨w.heap.size+2,2,none⟩=some (.float .f64 x2):=by rw[HX2.out];exact fl_at h1.out.2.2.2.2.2.2 2 (by rw[List.length_map,HL.out];decide)
 have c6:=h1.out.2.2.2.1.c6
 have c7:=h1.out.2.2.2.1.c7
 rw[show ({ p with pos:=q1,rf:=rf1 }:Pr).hz=true from HZ.out] at c6
 rw[show ({ p with pos:=q1,rf:=rf1 }:Pr).hm=false from HM.out] at c7
 have g0:w1.cell? ⟨w.heap.size+1,0,none⟩=some (.float .f64 0):=by rw[zC HB1.out.2];rfl
 have g1:w1.cell? ⟨w.heap.size+1,1,none⟩=some (.float .f64 0):=by rw[zC HB1.out.2];rfl
 have g2:w1.cell? ⟨w.heap.size+1,2,none⟩=some (.float .f64 0):=by rw[zC HB1.out.2];rfl
 have g3:w1.cell? ⟨w.heap.size+1,3,none⟩=some (.float .f64 0):=by rw[zC HB1.out.2];rfl
 have gf:∀i,w1.frozen? ⟨w.heap.size+1,i,none⟩=false:=fun i=>zF HB1.out.2 i
 have n1:¬(w.heap.size+1=w.heap.size+2):=by omega
 have n2:¬(w.heap.size+1=pb):=by omega
 go_upto_region 15 with fail
 obtain⟨w2,hw2⟩:∃w2,w2=(((w1.setCell ⟨w.heap.size+1,0,none⟩ (.float .f64 x0)).setCell ⟨w.heap.size+1,1,none⟩ (.float .f64 x1)).setCell ⟨w.heap.size+1,2,none⟩ (.float .f64 x2)):=⟨_,rfl⟩
 rw[←hw2]
 have B2:Hid (w2.heap[w.heap.size+1]?=some (.cells #[.float .f64 x0,.float .f64 x1,.float .f64 x2,.float .f64 0,.int .u8 1] 113 (0,0))∧Fr (Eq (w.heap.size+1)) w1 w2):=by
  show _∧_
  rw[hw2]
  exact⟨Lib.heap_setCell_same (i:=2) (Lib.heap_setCell_same (i:=1) (Lib.heap_setCell_same (i:=0) HB1.out.2 (.float .f64 x0)) (.float .f64 x1)) (.float .f64 x2),((((Fr.refl (Eq (w.heap.size+1)) w1).setR (a:=⟨w.heap.size+1,0,none⟩) _).setR (a:=⟨w.heap.size+1,1,none⟩) _).setR (a:=⟨w.heap.size+1,2,none⟩) _)⟩
 have hr2:w2.heap[w.heap.size]?=some (.cells #[.float .f64 0,.float .f64 0,.float .f64 0,.float .f64 0,.int .u8 0,.bool false] 115 (0,0)):=(B2.out.2.block _ (zG HB1.out.1).1 (by omega)).trans HB1.out.1
 clear hw2 c6 c7 g0 g1 g2 g3 gf k0 k1 k2
 have e0:w2.cell? ⟨w.heap.size+1,0,none⟩=some (.float .f64 x0):=by rw[zC B2.out.1];rfl
 have e1:w2.cell? ⟨w.heap.size+1,1,none⟩=some (.float .f64 x1):=by rw[zC B2.out.1];rfl
 have e2:w2.cell? ⟨w.heap.size+1,2,none⟩=some (.float .f64 x2):=by rw[zC B2.out.1];rfl
 have e3:w2.cell? ⟨w.heap.size+1,3,none⟩=some (.float .f64 0):=by rw[zC B2.out.1];rfl
 have e4:w2.cell? ⟨w.heap.size+1,4,none⟩=some (.int .u8 1):=by rw[zC B2.out.1];rfl
 have al2:∀A B,((w2.alloc A).alloc B).heap[w.heap.size]?=some (.cells #[.float .f64 0,.float .f64 0,.float .f64 0,.float .f64 0,.int .u8 0,.bool false] 115 (0,0)):=fun A B=>(((Fr.refl (fun _=>False) w2).alloc A).alloc B).block _ (zG hr2).1 (fun h=>h) |>.trans hr2
 have r0:∀A B,((w2.alloc A).alloc B).cell? ⟨w.heap.size,0,none⟩=some (.float .f64 0):=fun A B=>by rw[zC (al2 A B)];rfl
 have r1:∀A B,((w2.alloc A).alloc B).cell? ⟨w.heap.size,1,none⟩=some (.float .f64 0):=fun A B=>by rw[zC (al2 A B)];rfl
 have r2:∀A B,((w2.alloc A).alloc B).cell? ⟨w.heap.size,2,none⟩=some (.float .f64 0):=fun A B=>by rw[zC (al2 A B)];rfl
 have r3:∀A B,((w2.alloc A).alloc B).cell? ⟨w.heap.size,3,none⟩=some (.float .f64 0):=fun A B=>by rw[zC (al2 A B)];rfl
 have r4:∀A B,((w2.alloc A).alloc B).cell? ⟨w.heap.size,4,none⟩=some (.int .u8 0):=fun A B=>by rw[zC (al2 A B)];rfl
 have r5:∀A B,((w2.alloc A).alloc B).cell? ⟨w.heap.size,5,none⟩=some (.bool false):=fun A B=>by rw[zC (al2 A B)];rfl
 have rf:∀A B i,((w2.alloc A).alloc B).frozen? ⟨w.heap.size,i,none⟩=false:=fun A B i=>zF (al2 A B) i
 have C159:=zH ac159
 clear al2
 go_wp2_with (go_at_call 159;refine (C159.out _ _ _ _ _ _).mono ?_;rintro e w3 ⟨rfl,rfl⟩)
 refine bodyPost_ret (v:=.tuple #[.agg #[.float .f64 x0,.float .f64 x1,.float .f64 x2,.float .f64 0,.int .u8 1,.bool true],.nilIface]) (by simp[results,Tryz.f192,go_sem,r0,r1,r2,r3,r4,r5]) rfl ?_
 obtain⟨a1,a2,a3,a4,a5,a6,a7⟩:=h1.out
 have fS:∀A B v0 v1 v2 v3 v4 v5,Fr (Eq w.heap.size) w2 ((((((((w2.alloc A).alloc B).setCell ⟨w.heap.size,0,none⟩ v0).setCell ⟨w.heap.size,1,none⟩ v1).setCell ⟨w.heap.size,2,none⟩ v2).setCell ⟨w.heap.size,3,none⟩ v3).setCell ⟨w.heap.size,4,none⟩ v4).setCell ⟨w.heap.size,5,none⟩ v5):=fun A B v0 v1 v2 v3 v4 v5=>((((((((Fr.refl _ w2).alloc A).alloc B).setR v0).setR v1).setR v2).setR v3).setR v4).setR v5
 have fS':=fS (.cells #[.float .f64 x0,.float .f64 x1,.float .f64 x2,.float .f64 0,.int .u8 1] 113) (.cells #[.float .f64 x0,.float .f64 x1,.float .f64 x2,.float .f64 0,.int .u8 1,.bool true] 115) (.float .f64 x0) (.float .f64 x1) (.float .f64 x2) (.float .f64 0) (.int .u8 1) (.bool true)
 refine⟨x0,x1,x2,0,by rw[HD.out];rfl,q1,rf1,?_,a1,a2,a3,(a4.fr B2.out.2 (by omega) (by omega)).fr fS' (by omega) (by omega),a5,?_⟩
 ·rw[HD.out]
  obtain⟨ys,hys⟩:∃ys,ys=xs.map flp:=⟨_,rfl⟩
  have hyl:ys.length=3:=by rw[hys,List.length_map,HL.out]
  rw[HX0.out,HX1.out,HX2.out,←hys]
  match ys,hyl with
  | [a,b,c],_=>rfl
 ·exact (((F0.out.weak (fun _ h=>h.elim)).trans a6).transNew B2.out.2 (fun b e=>.inl (by omega))).transNew fS' (fun b e=>.inl (by omega))
theorem point192_2{pb tb tf tc:Nat}{T:List UInt8}{p:Pr}{w:World}(h:PrAt pb tb tf tc T p w)(htw:tb < w.heap.size){ps Q0 Q':List Int}{l':List UInt8}{xs:List (Int × Int)}(ho:ScOk p ps)(hrf:RfOk p.rf Q0)(hr:RowP ps Q0 1 (T.drop p.pos) xs Q' l')(hd:DmOk p ps)(hdm:p.dm=2):
  Calls Tryz.prog 192 #[.pointer (some ⟨pb,0,none⟩)] w (PtPost pb tb tf tc T p xs Q' l' w):=by
 have hpb:=h.lt
 obtain⟨w0,hw0⟩:∃w0,w0=(w.alloc (.cells #[.float .f64 0,.float .f64 0,.float .f64 0,.float .f64 0,.int .u8 0,.bool false] 115)).alloc (.cells #[.float .f64 0,.float .f64 0,.float .f64 0,.float .f64 0,.int .u8 2] 113):=⟨_,rfl⟩
 have f0:ZF w w0:=by rw[hw0];exact ((Fr.refl _ w).alloc _).alloc _
 have s1:(w.alloc (.cells #[.float .f64 0,.float .f64 0,.float .f64 0,.float .f64 0,.int .u8 0,.bool false] 115)).heap.size=w.heap.size+1:=by show (w.heap.push _).size=_;rw[Array.size_push]
 have s0:w0.heap.size=w.heap.size+2:=by rw[hw0];show ((w.alloc _).heap.push _).size=_;rw[Array.size_push,s1]
 have b0:w0.heap[w.heap.size]?=some (.cells #[.float .f64 0,.float .f64 0,.float .f64 0,.float .f64 0,.int .u8 0,.bool false] 115 (0,0)):=by rw[hw0];exact (Below.heap_alloc _ _ _ (by omega)).trans (zN w _)
 have b1:w0.heap[w.heap.size+1]?=some (.cells #[.float .f64 0,.float .f64 0,.float .f64 0,.float .f64 0,.int .u8 2] 113 (0,0)):=by rw[hw0,←s1];exact zN _ _
 have hpl:ps.length=3:=by rw[hd.wd,hdm];rfl
 have hxl:xs.length=3:=by rw[hr.len (by omega),hpl]
 have C240:Hid (Calls Tryz.prog 240 #[.pointer (some ⟨pb,0,none⟩),.int .i64 1] w0 fun e w'=>e=.returned (.tuple #[.slice (some ⟨w.heap.size+2,0,none⟩) 3 3,.nilIface])∧∃(q:Nat) (rf:Nat→Int),Hid (p.pos≤q∧q≤T.length∧l'=T.drop q∧PrAt pb tb tf tc T { p with pos:=q,rf:=rf } w'∧RfOk rf Q'∧Fr (Eq pb) w0 w'∧w'.heap[w.heap.size+2]?=some (.cells ((xs.map flp).map flv).toArray 40 (0,0)))):=(points240 (h.keep f0) (by omega) ho hrf hr (by decide)).mono (fun e w' h=>by
  unfold PaPost at h
  rw[hxl,s0] at h
  exact h)
 have hz:=hd.hz
 have hm:=hd.hm
 rw[hdm] at hz hm
 have hsf:=st_fl
 have c3:=h.c3
 rw[hdm] at c3
 have HW0:=zH hw0
 have F0:=zH f0
 have HB:=zH (⟨b0,b1⟩:_∧_)
 have HL:=zH hxl
 have HD:=zH hdm
 have HZ:=zH hz
 have HM:=zH hm
 obtain⟨x0,hx0⟩:∃x,x=(xs.map flp).getD 0 0:=⟨_,rfl⟩
 have HX0:=zH hx0
 clear hx0
 obtain⟨x1,hx1⟩:∃x,x=(xs.map flp).getD 1 0:=⟨_,rfl⟩
 have HX1:=zH hx1
 clear hx1
 obtain⟨x2,hx2⟩:∃x,x=(xs.map flp).getD 2 0:=⟨_,rfl⟩
 have HX2:=zH hx2
 clear hx2
 clear h ho hrf hr hd hpl hxl f0 b0 b1 hw0 hdm hz hm s1
 go_enter Tryz.func192,Tryz.ntmps192
 go_upto_region 3 with fail
 rw[←HW0.out]
 go_upto_region 4 with (go_at_call 240;refine C240.out.mono ?_;rintro e w1 ⟨rfl,q1,rf1,h1⟩)
 have FE:Hid (Fr (Eq pb) w0 w1):=h1.out.2.2.2.2.2.1
 have HB1:Hid (w1.heap[w.heap.size]?=some (.cells #[.float .f64 0,.float .f64 0,.float .f64 0,.float .f64 0,.int .u8 0,.bool false] 115 (0,0))∧w1.heap[w.heap.size+1]?=some (.cells #[.float .f64 0,.float .f64 0,.float .f64 0,.float .f64 0,.int .u8 2] 113 (0,0))):=⟨(FE.out.block _ (by omega) (by omega)).trans HB.out.1,(FE.out.block _ (by omega) (by omega)).trans HB.out.2⟩
 have k0:w1.cell? ⟨w.heap.size+2,0,none⟩=some (.float .f64 x0):=by rw[HX0.out];exact fl_at h1.out.2.2.2.2.2.2 0 (by rw[List.length_map,HL.out];decide)
 have k1:w1.cell? ⟨w.heap.size+2,1,none⟩=some (.float .f64 x1):=by rw[HX1.out];exact fl_at h1.out.2.2.2.2.2.2 1 (by rw[List.length_map,HL.out];decide)
 have k2:w1.cell? ⟨w.heap.size+2,2,none⟩=some (.float .f64 x2):=by rw[HX2.out];exact fl_at h1.out.2.2.2.2.2.2 2 (by rw[List.length_map,HL.out];decide)
 have c6:=h1.out.2.2.2.1.c6
 have c7:=h1.out.2.2.2.1.c7
 rw[show ({ p with pos:=q1,rf:=rf1 }:Pr).hz=false from HZ.out] at c6
 rw[show ({ p with pos:=q1,rf:=rf1 }:Pr).hm=true from HM.out] at c7
 have g0:w1.cell? ⟨w.heap.size+1,0,none⟩=some (.float .f64 0):=by rw[zC HB1.out.2];rfl
 have g1:w1.cell? ⟨w.heap.size+1,1,none⟩=some (.float .f64 0):=by rw[zC HB1.out.2];rfl
 have g2:w1.cell? ⟨w.heap.size+1,2,none⟩=some (.float .f64 0):=by rw[zC HB1.out.2];rfl
 have g3:w1.cell? ⟨w.heap.size+1,3,none⟩=some (.float .f64 0):=by rw[zC HB1.out.2];rfl
 have gf:∀i,w1.frozen? ⟨w.heap.size+1,i,none⟩=false:=fun i=>zF HB1.out.2 i
 have n1:¬(w.heap.size+1=w.heap.size+2):=by omega
 have n2:¬(w.heap.size+1=pb):=by omega
 go_upto_region 15 with fail
 obtain⟨w2,hw2⟩:∃w2,w2=(((w1.setCell ⟨w.heap.size+1,0,none⟩ (.float .f64 x0)).setCell ⟨w.heap.size+1,1,none⟩ (.float .f64 x1)).setCell ⟨w.heap.size+1,3,none⟩ (.float .f64 x2)):=⟨_,rfl⟩
 rw[←hw2]
 have B2:Hid (w2.heap[w.heap.size+1]?=some (.cells #[.float .f64 x0,.float .f64 x1,.float .f64 0,.float .f64 x2,.int .u8 2] 113 (0,0))∧Fr (Eq (w.heap.size+1)) w1 w2):=by
  show _∧_
  rw[hw2]
  exact⟨Lib.heap_setCell_same (i:=3) (Lib.heap_setCell_same (i:=1) (Lib.heap_setCell_same (i:=0) HB1.out.2 (.float .f64 x0)) (.float .f64 x1)) (.float .f64 x2),((((Fr.refl (Eq (w.heap.size+1)) w1).setR (a:=⟨w.heap.size+1,0,none⟩) _).setR (a:=⟨w.heap.size+1,1,none⟩) _).setR (a:=⟨w.heap.size+1,3,none⟩) _)⟩
 have hr2:w2.heap[w.heap.size]?=some (.cells #[.float .f64 0,.float .f64 0,.float .f64 0,.float .f64 0,.int .u8 0,.bool false] 115 (0,0)):=(B2.out.2.block _ (zG HB1.out.1).1 (by omega)).trans HB1.out.1
 clear hw2 c6 c7 g0 g1 g2 g3 gf k0 k1 k2
 have e0:w2.cell? ⟨w.heap.size+1,0,none⟩=some (.float .f64 x0):=by rw[zC B2.out.1];rfl
 have e1:w2.cell? ⟨w.heap.size+1,1,none⟩=some (.float .f64 x1):=by rw[zC B2.out.1];rfl
 have e2:w2.cell? ⟨w.heap.size+1,2,none⟩=some (.float .f64 0):=by rw[zC B2.out.1];rfl
 have e3:w2.cell? ⟨w.heap.size+1,3,none⟩=some (.float .f64 x2):=by rw[zC B2.out.1];rfl
 have e4:w2.cell? ⟨w.heap.size+1,4,none⟩=some (.int .u8 2):=by rw[zC B2.out.1];rfl
 have al2:∀A B,((w2.alloc A).alloc B).heap[w.heap.size]?=some (.cells #[.float .f64 0,.float .f64 0,.float .f64 0,.float .f64 0,.int .u8 0,.bool false] 115 (0,0)):=fun A B=>(((Fr.refl (fun _=>False) w2).alloc A).alloc B).block _ (zG hr2).1 (fun h=>h) |>.trans hr2
 have r0:∀A B,((w2.alloc A).alloc B).cell? ⟨w.heap.size,0,none⟩=some (.float .f64 0):=fun A B=>by rw[zC (al2 A B)];rfl
 have r1:∀A B,((w2.alloc A).alloc B).cell? ⟨w.heap.size,1,none⟩=some (.float .f64 0):=fun A B=>by rw[zC (al2 A B)];rfl
 have r2:∀A B,((w2.alloc A).alloc B).cell? ⟨w.heap.size,2,none⟩=some (.float .f64 0):=fun A B=>by rw[zC (al2 A B)];rfl
 have r3:∀A B,((w2.alloc A).alloc B).cell? ⟨w.heap.size,3,none⟩=some (.float .f64 0):=fun A B=>by rw[zC (al2 A B)];rfl
 have r4:∀A B,((w2.alloc A).alloc B).cell? ⟨w.heap.size,4,none⟩=some (.int .u8 0):=fun A B=>by rw[zC (al2 A B)];rfl
 have r5:∀A B,((w2.alloc A).alloc B).cell? ⟨w.heap.size,5,none⟩=some (.bool false):=fun A B=>by rw[zC (al2 A B)];rfl
 have rf:∀A B i,((w2.alloc A).alloc B).frozen? ⟨w.heap.size,i,none⟩=false:=fun A B i=>zF (al2 A B) i
 have C159:=zH ac159
 clear al2
 go_wp2_with (go_at_call 159;refine (C159.out _ _ _ _ _ _).mono ?_;rintro e w3 ⟨rfl,rfl⟩)
 refine bodyPost_ret (v:=.tuple #[.agg #[.float .f64 x0,.float .f64 x1,.float .f64 0,.float .f64 x2,.int .u8 2,.bool true],.nilIface]) (by simp[results,Tryz.f192,go_sem,r0,r1,r2,r3,r4,r5]) rfl ?_
 obtain⟨a1,a2,a3,a4,a5,a6,a7⟩:=h1.out
 have fS:∀A B v0 v1 v2 v3 v4 v5,Fr (Eq w.heap.size) w2 ((((((((w2.alloc A).alloc B).setCell ⟨w.heap.size,0,none⟩ v0).setCell ⟨w.heap.size,1,none⟩ v1).setCell ⟨w.heap.size,2,none⟩ v2).setCell ⟨w.heap.size,3,none⟩ v3).setCell ⟨w.heap.size,4,none⟩ v4).setCell ⟨w.heap.size,5,none⟩ v5):=fun A B v0 v1 v2 v3 v4 v5=>((((((((Fr.refl _ w2).alloc A).alloc B).setR v0).setR v1).setR v2).setR v3).setR v4).setR v5
 have fS':=fS (.cells #[.float .f64 x0,.float .f64 x1,.float .f64 0,.float .f64 x2,.int .u8 2] 113) (.cells #[.float .f64 x0,.float .f64 x1,.float .f64 0,.float .f64 x2,.int .u8 2,.bool true] 115) (.float .f64 x0) (.float .f64 x1) (.float .f64 0) (.float .f64 x2) (.int .u8 2) (.bool true)
 refine⟨x0,x1,0,x2,by rw[HD.out];rfl,q1,rf1,?_,a1,a2,a3,(a4.fr B2.out.2 (by omega) (by omega)).fr fS' (by omega) (by omega),a5,?_⟩
 ·rw[HD.out]
  obtain⟨ys,hys⟩:∃ys,ys=xs.map flp:=⟨_,rfl⟩
  have hyl:ys.length=3:=by rw[hys,List.length_map,HL.out]
  rw[HX0.out,HX1.out,HX2.out,←hys]
  match ys,hyl with
  | [a,b,c],_=>rfl
 ·exact (((F0.out.weak (fun _ h=>h.elim)).trans a6).transNew B2.out.2 (fun b e=>.inl (by omega))).transNew fS' (fun b e=>.inl (by omega))
theorem point192_3{pb tb tf tc:Nat}{T:List UInt8}{p:Pr}{w:World}(h:PrAt pb tb tf tc T p w)(htw:tb < w.heap.size){ps Q0 Q':List Int}{l':List UInt8}{xs:List (Int × Int)}(ho:ScOk p ps)(hrf:RfOk p.rf Q0)(hr:RowP ps Q0 1 (T.drop p.pos) xs Q' l')(hd:DmOk p ps)(hdm:p.dm=3):
  Calls Tryz.prog 192 #[.pointer (some ⟨pb,0,none⟩)] w (PtPost pb tb tf tc T p xs Q' l' w):=by
 have hpb:=h.lt
 obtain⟨w0,hw0⟩:∃w0,w0=(w.alloc (.cells #[.float .f64 0,.float .f64 0,.float .f64 0,.float .f64 0,.int .u8 0,.bool false] 115)).alloc (.cells #[.float .f64 0,.float .f64 0,.float .f64 0,.float .f64 0,.int .u8 3] 113):=⟨_,rfl⟩
 have f0:ZF w w0:=by rw[hw0];exact ((Fr.refl _ w).alloc _).alloc _
 have s1:(w.alloc (.cells #[.float .f64 0,.float .f64 0,.float .f64 0,.float .f64 0,.int .u8 0,.bool false] 115)).heap.size=w.heap.size+1:=by show (w.heap.push _).size=_;rw[Array.size_push]
 have s0:w0.heap.size=w.heap.size+2:=by rw[hw0];show ((w.alloc _).heap.push _).size=_;rw[Array.size_push,s1]
 have b0:w0.heap[w.heap.size]?=some (.cells #[.float .f64 0,.float .f64 0,.float .f64 0,.float .f64 0,.int .u8 0,.bool false] 115 (0,0)):=by rw[hw0];exact (Below.heap_alloc _ _ _ (by omega)).trans (zN w _)
 have b1:w0.heap[w.heap.size+1]?=some (.cells #[.float .f64 0,.float .f64 0,.float .f64 0,.float .f64 0,.int .u8 3] 113 (0,0)):=by rw[hw0,←s1];exact zN _ _
 have hpl:ps.length=4:=by rw[hd.wd,hdm];rfl
 have hxl:xs.length=4:=by rw[hr.len (by omega),hpl]
 have C240:Hid (Calls Tryz.prog 240 #[.pointer (some ⟨pb,0,none⟩),.int .i64 1] w0 fun e w'=>e=.returned (.tuple #[.slice (some ⟨w.heap.size+2,0,none⟩) 4 4,.nilIface])∧∃(q:Nat) (rf:Nat→Int),Hid (p.pos≤q∧q≤T.length∧l'=T.drop q∧PrAt pb tb tf tc T { p with pos:=q,rf:=rf } w'∧RfOk rf Q'∧Fr (Eq pb) w0 w'∧w'.heap[w.heap.size+2]?=some (.cells ((xs.map flp).map flv).toArray 40 (0,0)))):=(points240 (h.keep f0) (by omega) ho hrf hr (by decide)).mono (fun e w' h=>by
  unfold PaPost at h
  rw[hxl,s0] at h
  exact h)
 have hz:=hd.hz
 have hm:=hd.hm
 rw[hdm] at hz hm
 have hsf:=st_fl
 have c3:=h.c3
 rw[hdm] at c3
 have HW0:=zH hw0
 have F0:=zH f0
 have HB:=zH (⟨b0,b1⟩:_∧_)
 have HL:=zH hxl
 have HD:=zH hdm
 have HZ:=zH hz
 have HM:=zH hm
 obtain⟨x0,hx0⟩:∃x,x=(xs.map flp).getD 0 0:=⟨_,rfl⟩
 have HX0:=zH hx0
 clear hx0
 obtain⟨x1,hx1⟩:∃x,x=(xs.map flp).getD 1 0:=⟨_,rfl⟩
 have HX1:=zH hx1
 clear hx1
 obtain⟨x2,hx2⟩:∃x,x=(xs.map flp).getD 2 0:=⟨_,rfl⟩
 have HX2:=zH hx2
 clear hx2
 obtain⟨x3,hx3⟩:∃x,x=(xs.map flp).getD 3 0:=⟨_,rfl⟩
 have HX3:=zH hx3
 clear hx3
 clear h ho hrf hr hd hpl hxl f0 b0 b1 hw0 hdm hz hm s1
 go_enter Tryz.func192,Tryz.ntmps192
 go_upto_region 3 with fail
 rw[←HW0.out]
 go_upto_region 4 with (go_at_call 240;refine C240.out.mono ?_;rintro e w1 ⟨rfl,q1,rf1,h1⟩)
 have FE:Hid (Fr (Eq pb) w0 w1):=h1.out.2.2.2.2.2.1
 have HB1:Hid (w1.heap[w.heap.size]?=some (.cells #[.float .f64 0,.float .f64 0,.float .f64 0,.float .f64 0,.int .u8 0,.bool false] 115 (0,0))∧w1.heap[w.heap.size+1]?=some (.cells #[.float .f64 0,.float .f64 0,.float .f64 0,.float .f64 0,.int .u8 3] 113 (0,0))):=⟨(FE.out.block _ (by omega) (by omega)).trans HB.out.1,(FE.out.block _ (by omega) (by omega)).trans HB.out.2⟩
 have k0:w1.cell? ⟨w.heap.size+2,0,none⟩=some (.float .f64 x0):=by rw[HX0.out];exact fl_at h1.out.2.2.2.2.2.2 0 (by rw[List.length_map,HL.out];decide)
 have k1:w1.cell? ⟨w.heap.size+2,1,none⟩=some (.float .f64 x1):=by rw[HX1.out];exact fl_at h1.out.2.2.2.2.2.2 1 (by rw[List.length_map,HL.out];decide)
 have k2:w1.cell? ⟨w.heap.size+2,2,none⟩=some (.float .f64 x2):=by rw[HX2.out];exact fl_at h1.out.2.2.2.2.2.2 2 (by rw[List.length_map,HL.out];decide)
 have k3:w1.cell? ⟨w.heap.size+2,3,none⟩=some (.float .f64 x3):=by rw[HX3.out];exact fl_at h1.out.2.2.2.2.2.2 3 (by rw[List.length_map,HL.out];decide)
 have c6:=h1.out.2.2.2.1.c6
 have c7:=h1.out.2.2.2.1.c7
 rw[show ({ p with pos:=q1,rf:=rf1 }:Pr).hz=true from HZ.out] at c6
 rw[show ({ p with pos:=q1,rf:=rf1 }:Pr).hm=true from HM.out] at c7
 have g0:w1.cell? ⟨w.heap.size+1,0,none⟩=some (.float .f64 0):=by rw[zC HB1.out.2];rfl
 have g1:w1.cell? ⟨w.heap.size+1,1,none⟩=some (.float .f64 0):=by rw[zC HB1.out.2];rfl
 have g2:w1.cell? ⟨w.heap.size+1,2,none⟩=some (.float .f64 0):=by rw[zC HB1.out.2];rfl
 have g3:w1.cell? ⟨w.heap.size+1,3,none⟩=some (.float .f64 0):=by rw[zC HB1.out.2];rfl
 have gf:∀i,w1.frozen? ⟨w.heap.size+1,i,none⟩=false:=fun i=>zF HB1.out.2 i
 have n1:¬(w.heap.size+1=w.heap.size+2):=by omega
 have n2:¬(w.heap.size+1=pb):=by omega
 go_upto_region 15 with fail
 obtain⟨w2,hw2⟩:∃w2,w2=((((w1.setCell ⟨w.heap.size+1,0,none⟩ (.float .f64 x0)).setCell ⟨w.heap.size+1,1,none⟩ (.float .f64 x1)).setCell ⟨w.heap.size+1,2,none⟩ (.float .f64 x2)).setCell ⟨w.heap.size+1,3,none⟩ (.float .f64 x3)):=⟨_,rfl⟩
 rw[←hw2]
 have B2:Hid (w2.heap[w.heap.size+1]?=some (.cells #[.float .f64 x0,.float .f64 x1,.float .f64 x2,.float .f64 x3,.int .u8 3] 113 (0,0))∧Fr (Eq (w.heap.size+1)) w1 w2):=by
  show _∧_
  rw[hw2]
  exact⟨Lib.heap_setCell_same (i:=3) (Lib.heap_setCell_same (i:=2) (Lib.heap_setCell_same (i:=1) (Lib.heap_setCell_same (i:=0) HB1.out.2 (.float .f64 x0)) (.float .f64 x1)) (.float .f64 x2)) (.float .f64 x3),(((((Fr.refl (Eq (w.heap.size+1)) w1).setR (a:=⟨w.heap.size+1,0,none⟩) _).setR (a:=⟨w.heap.size+1,1,none⟩) _).setR (a:=⟨w.heap.size+1,2,none⟩) _).setR (a:=⟨w.heap.size+1,3,none⟩) _)⟩
 have hr2:w2.heap[w.heap.size]?=some (.cells #[.float .f64 0,.float .f64 0,.float .f64 0,.float .f64 0,.int .u8 0,.bool false] 115 (0,0)):=(B2.out.2.block _ (zG HB1.out.1).1 (by omega)).trans HB1.out.1
 clear hw2 c6 c7 g0 g1 g2 g3 gf k0 k1 k2 k3
 have e0:w2.cell? ⟨w.heap.size+1,0,none⟩=some (.float .f64 x0):=by rw[zC B2.out.1];rfl
 have e1:w2.cell? ⟨w.heap.size+1,1,none⟩=some (.float .f64 x1):=by rw[zC B2.out.1];rfl
 have e2:w2.cell? ⟨w.heap.size+1,2,none⟩=some (.float .f64 x2):=by rw[zC B2.out.1];rfl
 have e3:w2.cell? ⟨w.heap.size+1,3,none⟩=some (.float .f64 x3):=by rw[zC B2.out.1];rfl
 have e4:w2.cell? ⟨w.heap.size+1,4,none⟩=some (.int .u8 3):=by rw[zC B2.out.1];rfl
 have al2:∀A B,((w2.alloc A).alloc B).heap[w.heap.size]?=some (.cells #[.float .f64 0,.float .f64 0,.float .f64 0,.float .f64 0,.int .u8 0,.bool false] 115 (0,0)):=fun A B=>(((Fr.refl (fun _=>False) w2).alloc A).alloc B).block _ (zG hr2).1 (fun h=>h) |>.trans hr2
 have r0:∀A B,((w2.alloc A).alloc B).cell? ⟨w.heap.size,0,none⟩=some (.float .f64 0):=fun A B=>by rw[zC (al2 A B)];rfl
 have r1:∀A B,((w2.alloc A).alloc B).cell? ⟨w.heap.size,1,none⟩=some (.float .f64 0):=fun A B=>by rw[zC (al2 A B)];rfl
 have r2:∀A B,((w2.alloc A).alloc B).cell? ⟨w.heap.size,2,none⟩=some (.float .f64 0):=fun A B=>by rw[zC (al2 A B)];rfl
 have r3:∀A B,((w2.alloc A).alloc B).cell? ⟨w.heap.size,3,none⟩=some (.float .f64 0):=fun A B=>by rw[zC (al2 A B)];rfl
 have r4:∀A B,((w2.alloc A).alloc B).cell? ⟨w.heap.size,4,none⟩=some (.int .u8 0):=fun A B=>by rw[zC (al2 A B)];rfl
 have r5:∀A B,((w2.alloc A).alloc B).cell? ⟨w.heap.size,5,none⟩=some (.bool false):=fun A B=>by rw[zC (al2 A B)];rfl
 have rf:∀A B i,((w2.alloc A).alloc B).frozen? ⟨w.heap.size,i,none⟩=false:=fun A B i=>zF (al2 A B) i
 have C159:=zH ac159
 clear al2
 go_wp2_with (go_at_call 159;refine (C159.out _ _ _ _ _ _).mono ?_;rintro e w3 ⟨rfl,rfl⟩)
 refine bodyPost_ret (v:=.tuple #[.agg #[.float .f64 x0,.float .f64 x1,.float .f64 x2,.float .f64 x3,.int .u8 3,.bool true],.nilIface]) (by simp[results,Tryz.f192,go_sem,r0,r1,r2,r3,r4,r5]) rfl ?_
 obtain⟨a1,a2,a3,a4,a5,a6,a7⟩:=h1.out
 have fS:∀A B v0 v1 v2 v3 v4 v5,Fr (Eq w.heap.size) w2 ((((((((w2.alloc A).alloc B).setCell ⟨w.heap.size,0,none⟩ v0).setCell ⟨w.heap.size,1,none⟩ v1).setCell ⟨w.heap.size,2,none⟩ v2).setCell ⟨w.heap.size,3,none⟩ v3).setCell ⟨w.heap.size,4,none⟩ v4).setCell ⟨w.heap.size,5,none⟩ v5):=fun A B v0 v1 v2 v3 v4 v5=>((((((((Fr.refl _ w2).alloc A).alloc B).setR v0).setR v1).setR v2).setR v3).setR v4).setR v5
 have fS':=fS (.cells #[.float .f64 x0,.float .f64 x1,.float .f64 x2,.float .f64 x3,.int .u8 3] 113) (.cells #[.float .f64 x0,.float .f64 x1,.float .f64 x2,.float .f64 x3,.int .u8 3,.bool true] 115) (.float .f64 x0) (.float .f64 x1) (.float .f64 x2) (.float .f64 x3) (.int .u8 3) (.bool true)
 refine⟨x0,x1,x2,x3,by rw[HD.out];rfl,q1,rf1,?_,a1,a2,a3,(a4.fr B2.out.2 (by omega) (by omega)).fr fS' (by omega) (by omega),a5,?_⟩
 ·rw[HD.out]
  obtain⟨ys,hys⟩:∃ys,ys=xs.map flp:=⟨_,rfl⟩
  have hyl:ys.length=4:=by rw[hys,List.length_map,HL.out]
  rw[HX0.out,HX1.out,HX2.out,HX3.out,←hys]
  match ys,hyl with
  | [a,b,c,d],_=>rfl
 ·exact (((F0.out.weak (fun _ h=>h.elim)).trans a6).transNew B2.out.2 (fun b e=>.inl (by omega))).transNew fS' (fun b e=>.inl (by omega))
theorem point192{pb tb tf tc:Nat}{T:List UInt8}{p:Pr}{w:World}(h:PrAt pb tb tf tc T p w)(htw:tb < w.heap.size){ps Q0 Q':List Int}{l':List UInt8}{xs:List (Int × Int)}(ho:ScOk p ps)(hrf:RfOk p.rf Q0)(hr:RowP ps Q0 1 (T.drop p.pos) xs Q' l')(hd:DmOk p ps):
  Calls Tryz.prog 192 #[.pointer (some ⟨pb,0,none⟩)] w (PtPost pb tb tf tc T p xs Q' l' w):=by
 have hl:=hd.le
 have hc:p.dm=0∨p.dm=1∨p.dm=2∨p.dm=3:=by omega
 rcases hc with e|e|e|e
 ·exact point192_0 h htw ho hrf hr hd e
 ·exact point192_1 h htw ho hrf hr hd e
 ·exact point192_2 h htw ho hrf hr hd e
 ·exact point192_3 h htw ho hrf hr hd e
open Go.RowKit
def LnE (d:Nat) (P:Nat→Prop) (w:World) (cs:List Value) (xs:List Nat):Prop :=
 ∃g o n c:Nat,cs=[.int .u8 d,.slice (some ⟨g,o,none⟩) n c]∧n=xs.length∧n≤c∧0 < n∧n % wd d=0∧n≤30000∧P g∧∀j u,(xs.map flv)[j]?=some u→w.cell? ⟨g,o+j,none⟩=some u
theorem LnE.kp(d:Nat):Kp (LnE d):=⟨fun hq h=>by
  obtain⟨g,o,n,c,h1,h2,h3,h4,h5,h6,h7,h8⟩:=h
  have h0:=h8 0 (flv (_:List Nat)[0]) (by rw[List.getElem?_map,List.getElem?_eq_getElem (by omega)];rfl)
  exact⟨g,o,n,c,h1,h2,h3,h4,h5,h6,hq g h7 (World.block_lt_of_cell? _ _ h0),h8⟩,fun hq h=>by
  obtain⟨g,o,n,c,h1,h2,h3,h4,h5,h6,h7,h8⟩:=h
  refine⟨g,o,n,c,h1,h2,h3,h4,h5,h6,h7,fun j u hu=>?_⟩
  have h0:=h8 j u hu
  rw[World.cell?_of_block (hq g h7 (World.block_lt_of_cell? _ _ h0))]
  exact h0⟩
def PtE (d:Nat) (_:Nat→Prop) (_:World) (cs:List Value) (xs:List Nat):Prop :=
 ∃x y z m:Nat,cs=[.float .f64 x,.float .f64 y,.float .f64 z,.float .f64 m,.int .u8 d,.bool true]∧xs=numsOf d (x,y,z,m)
theorem PtE.kp(d:Nat):Kp (PtE d):=⟨fun _ h=>h,fun _ h=>h⟩
def RwE {α:Type} (E:(Nat→Prop)→World→List Value→α→Prop) (s d:Nat) (P:Nat→Prop) (w:World) (cs:List Value) (xs:List α):Prop :=
 ∃g o n c:Nat,cs=[.slice (some ⟨g,o,none⟩) n c,.int .u8 d]∧n=xs.length∧0 < n∧n≤4096∧RowsAt E P s w (.slice (some ⟨g,o,none⟩) n c) xs
theorem RwE.kp{α:Type}{E:(Nat→Prop)→World→List Value→α→Prop}(hE:Kp E){s:Nat}(hs:0 < s)(d:Nat):Kp (RwE E s d):=⟨fun hq h=>by
  obtain⟨g,o,n,c,h1,h2,h3,h4,h5⟩:=h
  exact⟨g,o,n,c,h1,h2,h3,h4,h5.mono hE hs hq⟩,fun hq h=>by
  obtain⟨g,o,n,c,h1,h2,h3,h4,h5⟩:=h
  exact⟨g,o,n,c,h1,h2,h3,h4,h5.kept hE hq⟩⟩
theorem ln_at{d:Nat}{P:Nat→Prop}{w:World}{g o n c:Nat}{xs:List (List Nat)}(h:RowsAt (LnE d) P 2 w (.slice (some ⟨g,o,none⟩) n c) xs){i:Nat}(hi:i < xs.length):
  ∃g2 o2 n2 c2:Nat,LnE d P w [.int .u8 d,.slice (some ⟨g2,o2,none⟩) n2 c2] xs[i]∧w.cell? ⟨g,o+i*2,none⟩=some (.int .u8 d)∧w.cell? ⟨g,o+i*2+1,none⟩=some (.slice (some ⟨g2,o2,none⟩) n2 c2):=by
 obtain⟨a,cap,e,_,hc⟩:=h.at
 obtain⟨b,o',cs,rfl,_,_,hE,hx⟩:=hc i hi
 injection e with e1 _ _
 injection e1 with e1
 injection e1 with e1 e2 _
 subst e1 e2
 obtain⟨g2,o2,n2,c2,rfl,rest⟩:=id hE
 exact⟨g2,o2,n2,c2,hE,hx 0 _ rfl,hx 1 _ rfl⟩
theorem ln_cells{d:Nat}{P:Nat→Prop}{w:World}{g o n c:Nat}{xs:List (List Nat)}(h:RowsAt (LnE d) P 2 w (.slice (some ⟨g,o,none⟩) n c) xs):
  ∃css:List (List Value),n=xs.length∧n≤c∧css.length=xs.length∧css.flatten.length=n*2∧(∀j u,css.flatten[j]?=some u→w.cell? ⟨g,o+j,none⟩=some u)∧(∀u∈css.flatten,u.oneCell'=true)∧∀(i:Nat) (c:List Value) (x:List Nat),css[i]?=some c→xs[i]?=some x→c.length=2∧LnE d P w c x:=by
 obtain⟨css,⟨h1,a,cap,e,h2,h3,h4⟩,hl,hE⟩:=h
 injection e with e1 e2 e3
 refine⟨css,e2,by omega,hl,by rw[h1,e2],fun j u hu=>?_,fun u hu=>?_,hE⟩
 ·have hn:0 < xs.length:=by
   rcases Nat.eq_zero_or_pos xs.length with h0|h0
   ·rw[h0] at h1
    have:css.flatten=[]:=List.eq_nil_of_length_eq_zero (by omega)
    rw[this] at hu
    simp at hu
   ·exact h0
  obtain⟨b,o',rfl,_,hc⟩:=h4 hn
  injection e1 with e1
  injection e1 with e1 e5 _
  rw[e1,e5]
  exact hc j u hu
 ·obtain⟨cs,hcs,hu⟩:=List.mem_flatten.1 hu
  obtain⟨i,hi⟩:=List.mem_iff_getElem?.1 hcs
  have hix:i < xs.length:=by have:=(zL hi).1;omega
  obtain⟨_,g2,o2,n2,c2,rfl,_⟩:=hE i cs xs[i] hi (by simp[hix])
  simp at hu
  rcases hu with rfl|rfl<;>rfl
theorem Fr.same{R:Nat→Prop}{w w1:World}(h:Fr R w w1){b:Nat}{cs:Array Value}{t:TypeId}{f:Nat × Nat}(hb:w1.heap[b]?=some (.cells cs t f))(i:Nat)(v:Value)(hv:cs[i]?=some v):Fr R w (w1.setCell ⟨b,i,none⟩ v):=by
 refine⟨h.os,h.tape,h.output,Nat.le_trans h.size (by simp[World.setCell]),fun k hk hn=>?_⟩
 refine Eq.trans ?_ (h.block k hk hn)
 by_cases e:k=b
 ·subst e
  rw[Lib.heap_setCell_same (i:=i) hb v,hb]
  congr 2
  apply Array.ext_getElem?
  intro j
  rw[Array.getElem?_setIfInBounds]
  split
  ·next e2 =>
   subst e2
   split
   ·exact hv.symm
   ·next h3=>rw[Array.getElem?_eq_none (by omega)]
  ·rfl
 ·exact Below.heap_setCell _ _ _ _ e
theorem own_cells{w:World}{B:Nat}{e:TypeId}{s:Nat}{g n cap:Nat}{xs:List Value}(h:w.ownsRow B e s (.slice (some ⟨g,0,none⟩) n cap) n xs):∃cur:Array Value,w.heap[g]?=some (.cells cur e (0,0))∧B≤g∧n≤cap∧xs.length=n*s∧∀(j:Nat) (u:Value),xs[j]?=some u→cur[j]?=some u:=by
 obtain⟨h1,h2⟩:=h
 rcases h2 with ⟨h2,_⟩|⟨g',cap',cur,h2,h3,h4,h5,_,_,h8⟩
 ·cases h2
 ·injection h2 with e1 _ e3
  injection e1 with e1
  injection e1 with e1 _ _
  subst e1 e3
  refine⟨cur,h4,h3,h5,h1,fun j u hu=>?_⟩
  rw[←h8] at hu
  have:=List.getElem?_take (l:=cur.toList) (i:=n*s) (j:=j)
  rw[this] at hu
  split at hu
  ·rw[←Array.getElem?_toList];exact hu
  ·cases hu
theorem al4{w1:World}{b:Nat}{cs:Array Value}{t:TypeId}{f:Nat × Nat}(h:w1.heap[b]?=some (.cells cs t f))(A B C D:Obj):((((w1.alloc A).alloc B).alloc C).alloc D).heap[b]?=some (.cells cs t f) :=
 (((((Fr.refl (fun _=>False) w1).alloc A).alloc B).alloc C).alloc D).block b (zG h).1 (fun h=>h) |>.trans h
theorem info121:(Tryz.prog.info? 121).map (fun i=>(i.zero,i.size,i.bytes))=some (some (.agg #[.int .u8 0,.slice none 0 0]),2,32):=by kernel_rfl
def NwPost {α:Type} (E:(Nat→Prop)→World→List Value→α→Prop) (s d:Nat) (P:Nat→Prop) (xs:List α) (w:World) (e:Ending) (w':World):Prop :=
 ∃g n c:Nat,e=.returned (.agg #[.slice (some ⟨g,0,none⟩) n c,.int .u8 d])∧Hid (ZF w w'∧n≤c∧RwE E s d P w' [.slice (some ⟨g,0,none⟩) n c,.int .u8 d] xs)
theorem and_u8:∀a:Fin 4,bits .and .u8 3 (a.val:Int)=(a.val:Int)∧bits .and .u8 (a.val:Int) (a.val:Int)=(a.val:Int):=by decide
theorem new163{d:Nat}(hd:d≤3){P:Nat→Prop}{w:World}(hP:∀b,w.heap.size≤b→P b){g o n c:Nat}{xs:List (List Nat)}(h:RowsAt (LnE d) P 2 w (.slice (some ⟨g,o,none⟩) n c) xs)(hn:0 < n)(hn4:n≤4096):
  Calls Tryz.prog 163 #[.slice (some ⟨g,o,none⟩) n c] w (NwPost (LnE d) 2 d P xs w):=by
 obtain⟨css,hnx,hnc,hcl,hfl,hfc,hone,hE⟩:=ln_cells h
 obtain⟨i0,hi0,hz0,hz1,hz2⟩:=info_parts info121
 have hg:g < w.heap.size:=World.block_lt_of_cell? w _ (ln_at h (i:=0) (by omega)).choose_spec.choose_spec.choose_spec.choose_spec.2.1
 have hb3:=and_u8 ⟨d,by omega⟩
 obtain⟨hb3a,hb3b⟩:=hb3
 simp only at hb3a hb3b
 have HBA:=zH hb3a
 have HBB:=zH hb3b
 have HH:=zH h
 have HE:=zH hE
 have HFC:=zH hfc
 have HFL:=zH hfl
 have HCL:=zH hcl
 have HONE:=zH hone
 have HX:=zH hnx
 have C151:=zH ac151
 have C232:=zH ac232
 have hn0:(0:Int) < (n:Int):=by omega
 have hnz:((n:Int) == 0)=false:=by simp;omega
 obtain⟨w0,hw0⟩:∃w0,w0=w.alloc (.cells #[.slice none 0 0,.int .u8 0] 126):=⟨_,rfl⟩
 have f0:ZF w w0:=by rw[hw0];exact (Fr.refl _ w).alloc _
 have s0:w0.heap.size=w.heap.size+1:=by rw[hw0];show (w.heap.push _).size=_;rw[Array.size_push]
 have b0:w0.heap[w.heap.size]?=some (.cells #[.slice none 0 0,.int .u8 0] 126 (0,0)):=by rw[hw0];exact zN w _
 have F0:=zH f0
 have B0:=zH b0
 have HW0:=zH hw0
 clear h hE hfc hfl hcl hone hnx f0 b0 hw0 hb3a hb3b
 go_enter Tryz.func163,Tryz.ntmps163
 go_upto_region 4 with fail
 rw[←HW0.out]
 go_upto_region 5 with fail
 go_loopw [3,12] (fun cv iv wr=>∃(i c3:Nat),i≤n∧iv=.int .i64 (i:Int)∧cv=.int .u8 (c3:Int)∧Hid ((i=0→c3=3)∧(0 < i→c3=d)∧ZF w0 wr)) (fun _ iv _=>n - (intOf iv).toNat)
 case atStart=>exact⟨0,3,Nat.zero_le _,rfl,rfl,fun _=>rfl,fun h=>absurd h (by decide),Fr.refl _ _⟩
 case round =>
  obtain⟨i,c3,hi,rfl,rfl,hrel⟩:=hrel
  by_cases hlt:i < n
  ·obtain⟨g2,o2,n2,c2,hl,q0,q1⟩:=ln_at HH.out (i:=i) (by rw[←HX.out];exact hlt)
   have q0':=(F0.out.trans hrel.out.2.2).cell q0 (fun h=>h)
   have q1':=(F0.out.trans hrel.out.2.2).cell q1 (fun h=>h)
   have hgr:g < wr.heap.size:=World.block_lt_of_cell? wr _ q0'
   have hb:bits .and .u8 (c3:Int) (d:Int)=(d:Int):=by
    rcases Nat.eq_zero_or_pos i with h0|h0
    ·rw[hrel.out.1 h0];exact HBA.out
    ·rw[hrel.out.2.1 h0];exact HBB.out
   have HL:=zH hl
   clear q0 q1 hl
   go_wp2_with (go_at_call 151;refine (C151.out _ _ _ _ _ _).mono ?_;rintro e w1 ⟨rfl,rfl⟩)
   have HR:Hid ((i+1=0→d=3)∧(0 < i+1→d=d)∧ZF w0 (((wr.alloc (.cells #[.int .u8 d,.slice (some ⟨g2,o2,none⟩) n2 c2] 121)).alloc (.cells #[.int .u8 d,.slice (some ⟨g2,o2,none⟩) n2 c2] 121)).alloc (.cells #[.int .u8 d,.slice (some ⟨g2,o2,none⟩) n2 c2] 119))):=⟨fun h=>absurd h (by omega),fun _=>rfl,((hrel.out.2.2.alloc _).alloc _).alloc _⟩
   go_roundw
   case rel=>exact⟨i+1,d,by omega,by go_num,rfl,HR.out⟩
   case measure=>simp[intOf];omega
  ·have hin:i=n:=by omega
   subst hin
   obtain rfl:d=c3:=(hrel.out.2.1 hn).symm
   obtain⟨wo,hwo⟩:∃wo,wo=wr:=⟨_,rfl⟩
   subst hwo
   have FR1:=zH hrel.out.2.2
   clear hrel
   have HN:Hid (∀j u,css.flatten[j]?=some u→wo.cell? ((⟨g,o,none⟩:Addr).add j)=some u):=fun j u hj=>by
    have e:(⟨g,o,none⟩:Addr).add j=⟨g,o+j,none⟩:=by cases j<;>simp[Addr.add]
    rw[e]
    exact (F0.out.trans FR1.out).cell (HFC.out j u hj) (fun h=>h)
   have K3:Hid (0+i≤maxLen):=by show _≤_;unfold maxLen;omega
   have K4:Hid ((0+i)*32≤140737488355328):=by show _≤_;omega
   go_upto_region 9 with fail
   go_upto_region 10 with (at_builtin;refine wpList_append_own_at _ rfl _ _ 124 rfl wo.heap.size 121 i0 (.agg #[.int .u8 0,.slice none 0 0]) 2 32 Tryz.underlying124 hi0 hz0 hz1 hz2 rfl (by decide) _ 0 [] rfl (World.ownsRow_nil _ _ _ _) ⟨g,o,none⟩ i c css.flatten rfl HFL.out HN.out HONE.out K3.out K4.out (Nat.le_refl _) ?_;intro v' wA hown hgrow _ hat;simp only[Nat.zero_add,List.nil_append] at hown;obtain⟨g6,cap6,rfl,_,_⟩:=own_capE hown hn;have OWN:=zH hown;have FA:Hid (ZF wo wA):=(Fr.refl _ _).grown hgrow (fun k hk=>by cases hk);clear hown hgrow hat)
   obtain⟨cur,hcur,hg6,hcap6,hfl6,hcc⟩:=own_cells OWN.out
   have HCUR:=zH hcur
   have HCC:=zH hcc
   clear hcur hcc
   have hng:(0:Int) < (i:Int):=hn0
   go_upto_region 11 with fail
   go_loopw [25] (fun iv wr=>∃(k:Nat),k≤i∧iv=.int .i64 (k:Int)∧Hid (ZF wA wr)) (fun iv _=>i - (intOf iv).toNat)
   case atStart=>exact⟨0,Nat.zero_le _,rfl,Fr.refl _ _⟩
   case round =>
    obtain⟨k,hk,rfl,hrel⟩:=hrel
    by_cases hlt:k < i
    ·have hkc:k < css.length:=by rw[HCL.out,←HX.out];exact hlt
     have hkx:k < xs.length:=by rw[←HX.out];exact hlt
     obtain⟨hl2,hl⟩:=HE.out k css[k] xs[k] (by simp[hkc]) (by simp[hkx])
     obtain⟨g2,o2,n2,c2,hck,hrest⟩:=id hl
     have hfa:∀j u,css[k][j]?=some u→cur[k*2+j]?=some u:=fun j u hj=>by
      refine HCC.out _ _ ?_
      rw[flatten_at (s:=2) (fun c hc=>?_) k css[k] (by simp[hkc]) j (by have:=(zL hj).1;omega)]
      ·exact hj
      ·obtain⟨q,hq⟩:=List.mem_iff_getElem?.1 hc
       have hq2:q < xs.length:=by have:=(zL hq).1;rw[HCL.out] at this;exact this
       exact (HE.out q c xs[q] hq (by simp[hq2])).1
     have v0:=hfa 0 (.int .u8 d) (by rw[hck];rfl)
     have v1:=hfa 1 (.slice (some ⟨g2,o2,none⟩) n2 c2) (by rw[hck];rfl)
     have hbx:wr.heap[g6]?=some (.cells cur 121 (0,0)):=(hrel.out.block g6 (zG HCUR.out).1 (fun h=>h)).trans HCUR.out
     have q0:wr.cell? ⟨g6,k*2,none⟩=some (.int .u8 d):=by rw[zC hbx];exact v0
     have q1:wr.cell? ⟨g6,k*2+1,none⟩=some (.slice (some ⟨g2,o2,none⟩) n2 c2):=by rw[zC hbx];exact v1
     have p0:∀A B C D,((((wr.alloc A).alloc B).alloc C).alloc D).cell? ⟨g6,k*2,none⟩=some (.int .u8 d):=fun A B C D=>by rw[zC (al4 hbx A B C D)];exact v0
     have p1:∀A B C D,((((wr.alloc A).alloc B).alloc C).alloc D).cell? ⟨g6,k*2+1,none⟩=some (.slice (some ⟨g2,o2,none⟩) n2 c2):=fun A B C D=>by rw[zC (al4 hbx A B C D)];exact v1
     have pf:∀A B C D j,((((wr.alloc A).alloc B).alloc C).alloc D).frozen? ⟨g6,j,none⟩=false:=fun A B C D j=>zF (al4 hbx A B C D) j
     have HV:=zH (⟨v0,v1,hbx⟩:_∧_∧_)
     clear hl2 hl hck hrest hfa v0 v1 hbx
     go_wp2_with (go_at_call 232;refine (C232.out _ _ _ _ _ _).mono ?_;rintro e w1 ⟨rfl,rfl⟩)
     have HR:∀A B C D,Hid (ZF wA ((((((wr.alloc A).alloc B).alloc C).alloc D).setCell ⟨g6,k*2,none⟩ (.int .u8 d)).setCell ⟨g6,k*2+1,none⟩ (.slice (some ⟨g2,o2,none⟩) n2 c2))):=fun A B C D=>by
      obtain⟨v0,v1,hbx⟩:=HV.out
      have h1:=al4 hbx A B C D
      have f1:=((((hrel.out.alloc A).alloc B).alloc C).alloc D).same h1 (k*2) _ v0
      have h2:=(((Fr.refl (fun _=>False) ((((wr.alloc A).alloc B).alloc C).alloc D)).same h1 (k*2) _ v0).block g6 (zG h1).1 (fun h=>h)).trans h1
      exact f1.same h2 (k*2+1) _ v1
     go_roundw
     case rel=>exact⟨k+1,by omega,by go_num,(HR _ _ _ _).out⟩
     case measure=>simp[intOf];omega
    ·have hin:k=i:=by omega
     subst hin
     have FT:=zH ((FR1.out.trans FA.out).trans hrel.out)
     have hbr:=(FT.out.block w.heap.size (zG B0.out).1 (fun h=>h)).trans B0.out
     have q0:wr.cell? ⟨w.heap.size,0,none⟩=some (.slice none 0 0):=by rw[zC hbr];rfl
     have q1:wr.cell? ⟨w.heap.size,1,none⟩=some (.int .u8 0):=by rw[zC hbr];rfl
     have qf:∀j,wr.frozen? ⟨w.heap.size,j,none⟩=false:=fun j=>zF hbr j
     have HBR:=zH hbr
     clear hbr
     go_wp2_with fail
     refine bodyPost_ret (v:=.agg #[.slice (some ⟨g6,0,none⟩) k cap6,.int .u8 d]) (by simp[results,Tryz.f163,go_sem,q0,q1]) rfl ?_
     have fS:Fr (Eq w.heap.size) wr ((wr.setCell ⟨w.heap.size,0,none⟩ (.slice (some ⟨g6,0,none⟩) k cap6)).setCell ⟨w.heap.size,1,none⟩ (.int .u8 d)):=((Fr.refl _ wr).setR _).setR _
     have hs1:=FR1.out.size
     have hg6w:¬w.heap.size=g6:=by omega
     refine⟨g6,k,cap6,rfl,((F0.out.trans FT.out).transNew fS (fun b e=>.inl (by omega))),hcap6,g6,0,k,cap6,rfl,HX.out,hn,hn4,css,⟨by rw[HFL.out,HX.out],some ⟨g6,0,none⟩,cap6,by rw[HX.out],by rw[←HX.out];exact hcap6,(fun e=>by cases e),fun _=>⟨g6,0,rfl,hP g6 (by omega),fun j u hj=>?_⟩⟩,HCL.out,fun q c x hc hx=>⟨(HE.out q c x hc hx).1,(LnE.kp d).kept (w:=w) (fun b hb hl=>?_) (HE.out q c x hc hx).2⟩⟩
     ·rw[Nat.zero_add]
      have h1:wr.cell? ⟨g6,j,none⟩=some u:=by
       rw[zC ((hrel.out.block g6 (zG HCUR.out).1 (fun h=>h)).trans HCUR.out)]
       exact HCC.out j u hj
      exact fS.cell h1 hg6w
     ·have h1:¬w.heap.size=b:=by omega
      refine (fS.block b ?_ h1).trans ((F0.out.trans FT.out).block b hl (fun h=>h))
      have:=(F0.out.trans FT.out).size
      omega
theorem new167{d:Nat}(hd:d≤3){P:Nat→Prop}{w:World}(hP:∀b,w.heap.size≤b→P b){g o n c:Nat}{xs:List (List Nat)}(h:RowsAt (LnE d) P 2 w (.slice (some ⟨g,o,none⟩) n c) xs)(hn:0 < n)(hn4:n≤4096):
  Calls Tryz.prog 167 #[.slice (some ⟨g,o,none⟩) n c] w (NwPost (LnE d) 2 d P xs w):=by
 obtain⟨css,hnx,hnc,hcl,hfl,hfc,hone,hE⟩:=ln_cells h
 obtain⟨i0,hi0,hz0,hz1,hz2⟩:=info_parts info121
 have hg:g < w.heap.size:=World.block_lt_of_cell? w _ (ln_at h (i:=0) (by omega)).choose_spec.choose_spec.choose_spec.choose_spec.2.1
 have hb3:=and_u8 ⟨d,by omega⟩
 obtain⟨hb3a,hb3b⟩:=hb3
 simp only at hb3a hb3b
 have HBA:=zH hb3a
 have HBB:=zH hb3b
 have HH:=zH h
 have HE:=zH hE
 have HFC:=zH hfc
 have HFL:=zH hfl
 have HCL:=zH hcl
 have HONE:=zH hone
 have HX:=zH hnx
 have C151:=zH ac151
 have C232:=zH ac232
 have hn0:(0:Int) < (n:Int):=by omega
 have hnz:((n:Int) == 0)=false:=by simp;omega
 obtain⟨w0,hw0⟩:∃w0,w0=w.alloc (.cells #[.slice none 0 0,.int .u8 0] 134):=⟨_,rfl⟩
 have f0:ZF w w0:=by rw[hw0];exact (Fr.refl _ w).alloc _
 have s0:w0.heap.size=w.heap.size+1:=by rw[hw0];show (w.heap.push _).size=_;rw[Array.size_push]
 have b0:w0.heap[w.heap.size]?=some (.cells #[.slice none 0 0,.int .u8 0] 134 (0,0)):=by rw[hw0];exact zN w _
 have F0:=zH f0
 have B0:=zH b0
 have HW0:=zH hw0
 clear h hE hfc hfl hcl hone hnx f0 b0 hw0 hb3a hb3b
 go_enter Tryz.func167,Tryz.ntmps167
 go_upto_region 4 with fail
 rw[←HW0.out]
 go_upto_region 5 with fail
 go_loopw [3,13] (fun cv iv wr=>∃(i c3:Nat),i≤n∧iv=.int .i64 (i:Int)∧cv=.int .u8 (c3:Int)∧Hid ((i=0→c3=3)∧(0 < i→c3=d)∧ZF w0 wr)) (fun _ iv _=>n - (intOf iv).toNat)
 case atStart=>exact⟨0,3,Nat.zero_le _,rfl,rfl,fun _=>rfl,fun h=>absurd h (by decide),Fr.refl _ _⟩
 case round =>
  obtain⟨i,c3,hi,rfl,rfl,hrel⟩:=hrel
  by_cases hlt:i < n
  ·obtain⟨g2,o2,n2,c2,hl,q0,q1⟩:=ln_at HH.out (i:=i) (by rw[←HX.out];exact hlt)
   have q0':=(F0.out.trans hrel.out.2.2).cell q0 (fun h=>h)
   have q1':=(F0.out.trans hrel.out.2.2).cell q1 (fun h=>h)
   have hgr:g < wr.heap.size:=World.block_lt_of_cell? wr _ q0'
   have hb:bits .and .u8 (c3:Int) (d:Int)=(d:Int):=by
    rcases Nat.eq_zero_or_pos i with h0|h0
    ·rw[hrel.out.1 h0];exact HBA.out
    ·rw[hrel.out.2.1 h0];exact HBB.out
   have HL:=zH hl
   clear q0 q1 hl
   go_wp2_with (go_at_call 151;refine (C151.out _ _ _ _ _ _).mono ?_;rintro e w1 ⟨rfl,rfl⟩)
   have HR:Hid ((i+1=0→d=3)∧(0 < i+1→d=d)∧ZF w0 (((wr.alloc (.cells #[.int .u8 d,.slice (some ⟨g2,o2,none⟩) n2 c2] 121)).alloc (.cells #[.int .u8 d,.slice (some ⟨g2,o2,none⟩) n2 c2] 121)).alloc (.cells #[.int .u8 d,.slice (some ⟨g2,o2,none⟩) n2 c2] 119))):=⟨fun h=>absurd h (by omega),fun _=>rfl,((hrel.out.2.2.alloc _).alloc _).alloc _⟩
   go_roundw
   case rel=>exact⟨i+1,d,by omega,by go_num,rfl,HR.out⟩
   case measure=>simp[intOf];omega
  ·have hin:i=n:=by omega
   subst hin
   obtain rfl:d=c3:=(hrel.out.2.1 hn).symm
   obtain⟨wo,hwo⟩:∃wo,wo=wr:=⟨_,rfl⟩
   subst hwo
   have FR1:=zH hrel.out.2.2
   clear hrel
   have HN:Hid (∀j u,css.flatten[j]?=some u→wo.cell? ((⟨g,o,none⟩:Addr).add j)=some u):=fun j u hj=>by
    have e:(⟨g,o,none⟩:Addr).add j=⟨g,o+j,none⟩:=by cases j<;>simp[Addr.add]
    rw[e]
    exact (F0.out.trans FR1.out).cell (HFC.out j u hj) (fun h=>h)
   have K3:Hid (0+i≤maxLen):=by show _≤_;unfold maxLen;omega
   have K4:Hid ((0+i)*32≤140737488355328):=by show _≤_;omega
   go_upto_region 9 with fail
   go_upto_region 10 with (at_builtin;refine wpList_append_own_at _ rfl _ _ 124 rfl wo.heap.size 121 i0 (.agg #[.int .u8 0,.slice none 0 0]) 2 32 Tryz.underlying124 hi0 hz0 hz1 hz2 rfl (by decide) _ 0 [] rfl (World.ownsRow_nil _ _ _ _) ⟨g,o,none⟩ i c css.flatten rfl HFL.out HN.out HONE.out K3.out K4.out (Nat.le_refl _) ?_;intro v' wA hown hgrow _ hat;simp only[Nat.zero_add,List.nil_append] at hown;obtain⟨g6,cap6,rfl,_,_⟩:=own_capE hown hn;have OWN:=zH hown;have FA:Hid (ZF wo wA):=(Fr.refl _ _).grown hgrow (fun k hk=>by cases hk);clear hown hgrow hat)
   obtain⟨cur,hcur,hg6,hcap6,hfl6,hcc⟩:=own_cells OWN.out
   have HCUR:=zH hcur
   have HCC:=zH hcc
   clear hcur hcc
   have hng:(0:Int) < (i:Int):=hn0
   go_upto_region 11 with fail
   go_loopw [26] (fun iv wr=>∃(k:Nat),k≤i∧iv=.int .i64 (k:Int)∧Hid (ZF wA wr)) (fun iv _=>i - (intOf iv).toNat)
   case atStart=>exact⟨0,Nat.zero_le _,rfl,Fr.refl _ _⟩
   case round =>
    obtain⟨k,hk,rfl,hrel⟩:=hrel
    by_cases hlt:k < i
    ·have hkc:k < css.length:=by rw[HCL.out,←HX.out];exact hlt
     have hkx:k < xs.length:=by rw[←HX.out];exact hlt
     obtain⟨hl2,hl⟩:=HE.out k css[k] xs[k] (by simp[hkc]) (by simp[hkx])
     obtain⟨g2,o2,n2,c2,hck,hrest⟩:=id hl
     have hfa:∀j u,css[k][j]?=some u→cur[k*2+j]?=some u:=fun j u hj=>by
      refine HCC.out _ _ ?_
      rw[flatten_at (s:=2) (fun c hc=>?_) k css[k] (by simp[hkc]) j (by have:=(zL hj).1;omega)]
      ·exact hj
      ·obtain⟨q,hq⟩:=List.mem_iff_getElem?.1 hc
       have hq2:q < xs.length:=by have:=(zL hq).1;rw[HCL.out] at this;exact this
       exact (HE.out q c xs[q] hq (by simp[hq2])).1
     have v0:=hfa 0 (.int .u8 d) (by rw[hck];rfl)
     have v1:=hfa 1 (.slice (some ⟨g2,o2,none⟩) n2 c2) (by rw[hck];rfl)
     have hbx:wr.heap[g6]?=some (.cells cur 121 (0,0)):=(hrel.out.block g6 (zG HCUR.out).1 (fun h=>h)).trans HCUR.out
     have q0:wr.cell? ⟨g6,k*2,none⟩=some (.int .u8 d):=by rw[zC hbx];exact v0
     have q1:wr.cell? ⟨g6,k*2+1,none⟩=some (.slice (some ⟨g2,o2,none⟩) n2 c2):=by rw[zC hbx];exact v1
     have p0:∀A B C D,((((wr.alloc A).alloc B).alloc C).alloc D).cell? ⟨g6,k*2,none⟩=some (.int .u8 d):=fun A B C D=>by rw[zC (al4 hbx A B C D)];exact v0
     have p1:∀A B C D,((((wr.alloc A).alloc B).alloc C).alloc D).cell? ⟨g6,k*2+1,none⟩=some (.slice (some ⟨g2,o2,none⟩) n2 c2):=fun A B C D=>by rw[zC (al4 hbx A B C D)];exact v1
     have pf:∀A B C D j,((((wr.alloc A).alloc B).alloc C).alloc D).frozen? ⟨g6,j,none⟩=false:=fun A B C D j=>zF (al4 hbx A B C D) j
     have HV:=zH (⟨v0,v1,hbx⟩:_∧_∧_)
     clear hl2 hl hck hrest hfa v0 v1 hbx
     go_wp2_with (go_at_call 232;refine (C232.out _ _ _ _ _ _).mono ?_;rintro e w1 ⟨rfl,rfl⟩)
     have HR:∀A B C D,Hid (ZF wA ((((((wr.alloc A).alloc B).alloc C).alloc D).setCell ⟨g6,k*2,none⟩ (.int .u8 d)).setCell ⟨g6,k*2+1,none⟩ (.slice (some ⟨g2,o2,none⟩) n2 c2))):=fun A B C D=>by
      obtain⟨v0,v1,hbx⟩:=HV.out
      have h1:=al4 hbx A B C D
      have f1:=((((hrel.out.alloc A).alloc B).alloc C).alloc D).same h1 (k*2) _ v0
      have h2:=(((Fr.refl (fun _=>False) ((((wr.alloc A).alloc B).alloc C).alloc D)).same h1 (k*2) _ v0).block g6 (zG h1).1 (fun h=>h)).trans h1
      exact f1.same h2 (k*2+1) _ v1
     go_roundw
     case rel=>exact⟨k+1,by omega,by go_num,(HR _ _ _ _).out⟩
     case measure=>simp[intOf];omega
    ·have hin:k=i:=by omega
     subst hin
     have FT:=zH ((FR1.out.trans FA.out).trans hrel.out)
     have hbr:=(FT.out.block w.heap.size (zG B0.out).1 (fun h=>h)).trans B0.out
     have q0:wr.cell? ⟨w.heap.size,0,none⟩=some (.slice none 0 0):=by rw[zC hbr];rfl
     have q1:wr.cell? ⟨w.heap.size,1,none⟩=some (.int .u8 0):=by rw[zC hbr];rfl
     have qf:∀j,wr.frozen? ⟨w.heap.size,j,none⟩=false:=fun j=>zF hbr j
     have HBR:=zH hbr
     clear hbr
     go_wp2_with fail
     refine bodyPost_ret (v:=.agg #[.slice (some ⟨g6,0,none⟩) k cap6,.int .u8 d]) (by simp[results,Tryz.f167,go_sem,q0,q1]) rfl ?_
     have fS:Fr (Eq w.heap.size) wr ((wr.setCell ⟨w.heap.size,0,none⟩ (.slice (some ⟨g6,0,none⟩) k cap6)).setCell ⟨w.heap.size,1,none⟩ (.int .u8 d)):=((Fr.refl _ wr).setR _).setR _
     have hs1:=FR1.out.size
     have hg6w:¬w.heap.size=g6:=by omega
     refine⟨g6,k,cap6,rfl,((F0.out.trans FT.out).transNew fS (fun b e=>.inl (by omega))),hcap6,g6,0,k,cap6,rfl,HX.out,hn,hn4,css,⟨by rw[HFL.out,HX.out],some ⟨g6,0,none⟩,cap6,by rw[HX.out],by rw[←HX.out];exact hcap6,(fun e=>by cases e),fun _=>⟨g6,0,rfl,hP g6 (by omega),fun j u hj=>?_⟩⟩,HCL.out,fun q c x hc hx=>⟨(HE.out q c x hc hx).1,(LnE.kp d).kept (w:=w) (fun b hb hl=>?_) (HE.out q c x hc hx).2⟩⟩
     ·rw[Nat.zero_add]
      have h1:wr.cell? ⟨g6,j,none⟩=some u:=by
       rw[zC ((hrel.out.block g6 (zG HCUR.out).1 (fun h=>h)).trans HCUR.out)]
       exact HCC.out j u hj
      exact fS.cell h1 hg6w
     ·have h1:¬w.heap.size=b:=by omega
      refine (fS.block b ?_ h1).trans ((F0.out.trans FT.out).block b hl (fun h=>h))
      have:=(F0.out.trans FT.out).size
      omega
end Go.Proofs.YtnjjgbcmjnfijaaGreatDoor
