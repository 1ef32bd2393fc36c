/- Plain data as the package's things: sequences, points, lines. No condition. -/
import Derived.Test.YtnjjgbcmjnfijaaGreatDoorRo
import Derived.Test.YtnjjgbcmjnfijaaGreatDoorR8
import Derived.Test.YtnjjgbcmjnfijaaGreatDoorR5
import Derived.Test.YtnjjgbcmjnfijaaGreatDoorR9
namespace Go.Proofs.YtnjjgbcmjnfijaaGreatDoor
set_option maxRecDepth 100000
set_option maxHeartbeats 8000000
open Go.RowKit
theorem and158:∀a:Fin 4,bits .and .i64 (a.val:Int) 3=(a.val:Int)∧IntKind.u8.wrap (a.val:Int)=(a.val:Int):=by decide
theorem ac158(d:Nat)(hd:d≤3)(w:World):Calls Tryz.prog 158 #[.int .i64 d] w fun e w'=>e=.returned (.int .u8 d)∧w=w':=by
 have h1:bits .and .i64 (d:Int) 3=(d:Int):=(and158 ⟨d,by omega⟩).1
 have h2:IntKind.u8.wrap (d:Int)=(d:Int):=(and158 ⟨d,by omega⟩).2
 clear hd
 go_enter Tryz.func158,Tryz.ntmps158
 go_wp2_with fail
 go_ret
 exact⟨rfl,rfl⟩
theorem info40r:∃i,Tryz.prog.info? 40=some i∧i.size=1:=by
 obtain⟨i,h,_,h2,_⟩:=info_parts info40
 exact⟨i,h,h2⟩
theorem lm_cells{w1:World}{b:Nat}{v0 v1:Value}{t:TypeId}(h:w1.heap[b]?=some (.cells #[v0,v1] t (0,0))):w1.cell? ⟨b,0,none⟩=some v0∧w1.cell? ⟨b,1,none⟩=some v1∧∀k,w1.frozen? ⟨b,k,none⟩=false:=by
 refine⟨?_,?_,fun k=>zF h k⟩<;>(rw[zC h];rfl)
def LmPost (d:Nat) (xs:List Nat) (w:World) (e:Ending) (w':World):Prop :=
 ∃g n:Nat,e=.returned (.agg #[.int .u8 d,.slice (some ⟨g,0,none⟩) n n])∧Hid (ZF w w'∧n=xs.length∧LnE d (fun b=>w.heap.size≤b) w' [.int .u8 d,.slice (some ⟨g,0,none⟩) n n] xs)
theorem rem_zero{n W:Nat}(h:n % W=0):wrap64 ((n:Int) % (W:Int))=0∧wrap64 ((n:Int).tmod (W:Int))=0∧(n:Int) % (W:Int)=0∧(n:Int).tmod (W:Int)=0:=by
 have h1:(n:Int) % (W:Int)=0:=by
  have:((n % W:Nat):Int)=(n:Int) % (W:Int):=by simp
  rw[←this,h]
  rfl
 have h2:(n:Int).tmod (W:Int)=0:=by rw[Int.tmod_eq_emod_of_nonneg (by omega)];exact h1
 rw[h1,h2]
 exact⟨by simp[wrap64],by simp[wrap64],rfl,rfl⟩
theorem seq155(d:Nat)(hd:d≤3){P:Nat→Prop}{xs:List Nat}{w:World}{b o n c:Nat}(h:NumsAt P w (.slice (some ⟨b,o,none⟩) n c) xs)(h0:0 < n)(hl:n≤30000)(hm:n % wd d=0):Calls Tryz.prog 155 #[.slice (some ⟨b,o,none⟩) n c,.int .i64 d] w (LmPost d xs w):=by
 obtain⟨hn,hc⟩:n=xs.length∧∀j u,(xs.map flv)[j]?=some u→w.cell? ⟨b,o+j,none⟩=some u:=by
  obtain⟨_,a,cap,e,_,_,h4⟩:=h
  injection e with e1 e2 _
  obtain⟨b',o',e3,_,hc⟩:=h4 (by omega)
  rw[e3] at e1
  injection e1 with e1
  injection e1 with e1 e4 _
  subst e1 e4
  exact⟨e2,hc⟩
 have hW:=wd_pos d
 obtain⟨W,hWd⟩:∃W,W=wd d:=⟨_,rfl⟩
 have C158:=zH (ac158 d hd)
 have C231:Hid (∀w1,Calls Tryz.prog 231 #[.int .u8 d] w1 fun e w'=>e=.returned (.int .i64 W)∧w1=w'):=fun w1=>by rw[hWd];exact (ac231 d hd w1).mono (fun _ _ h=>⟨h.1,h.2.symm⟩)
 have C193:Hid (∀g w1,Calls Tryz.prog 193 #[.slice (some ⟨g,0,none⟩) n n,.int .u8 d] w1 fun e w'=>e=.returned (.agg #[.int .u8 d,.slice (some ⟨g,0,none⟩) n n])∧w'=w1.alloc (.cells #[.int .u8 d,.slice (some ⟨g,0,none⟩) n n] 119)):=fun g w1=>ac193 d hd g 0 n n w1 hm (by omega)
 obtain⟨hr1,hr2,hr3,hr4⟩:=rem_zero (n:=n) (W:=W) (by rw[hWd];exact hm)
 have hW0:¬((W:Int)=0):=by omega
 have hW1:¬(W=0):=by omega
 have hmk:=make24 n (by omega)
 obtain⟨i0,hi0,hi2⟩:=info40r
 have bb:=two_allocs w (.cells #[.int .u8 0,.slice none 0 0] 119) (.cells (zfl n) 40)
 obtain⟨w0,hw0⟩:∃w0,w0=(w.alloc (.cells #[.int .u8 0,.slice none 0 0] 119)).alloc (.cells (zfl n) 40):=⟨_,rfl⟩
 rw[←hw0] at bb
 have f0:ZF w w0:=by rw[hw0];exact ((Fr.refl _ w).alloc _).alloc _
 have s0:w0.heap.size=w.heap.size+2:=by rw[hw0,sz1,sz1]
 have hsrc:∀j u,(xs.map flv)[j]?=some u→w0.cell? ((⟨b,o,none⟩:Addr).add j)=some u:=fun j u hu=>by
  have e:(⟨b,o,none⟩:Addr).add j=⟨b,o+j,none⟩:=by cases j<;>simp[Addr.add]
  rw[e]
  exact f0.cell (hc j u hu) (fun h=>h)
 have hcp:=run_copy_rows 3 24 24 40 Tryz.underlying24 i0 hi0 1 hi2 (w.heap.size+1) n n ⟨b,o,none⟩ c _ 40 bb.2 (xs.map flv) (by simp[hn]) (by simp[zfl]) hsrc (all_one xs)
 obtain⟨w1,hw1⟩:∃w1,w1=w0.setRow (w.heap.size+1) (xs.map flv).toArray:=⟨_,rfl⟩
 rw[←hw1] at hcp
 have b1:w1.heap[w.heap.size+1]?=some (.cells (xs.map flv).toArray 40 (0,0)):=by rw[hw1];exact setRow_heap w0 _ _ _ 40 (0,0) bb.2
 have hk:∀k,k≠w.heap.size+1→w1.heap[k]?=w0.heap[k]?:=fun k hk=>by rw[hw1];exact setRow_other w0 _ k _ hk
 have s1:w1.heap.size=w0.heap.size:=by rw[hw1];simp[World.setRow]
 have F1:Hid (ZF w w1):=⟨by rw[hw1];exact f0.os,by rw[hw1];exact f0.tape,by rw[hw1];exact f0.output,by omega,fun k hk2 _=>(hk k (by omega)).trans (f0.block k hk2 (fun h=>h))⟩
 have HB1:=zH b1
 have bR:=(hk _ (by omega)).trans bb.1
 have HBR:=zH bR
 have HW0:=zH hw0
 have hlt:w.heap.size < w1.heap.size:=by omega
 have HN:=zH (⟨hn,h0,hl,hm⟩:_∧_∧_∧_)
 have hwn:IntKind.i64.wrap (n:Int)=n:=by simp[IntKind.wrap,IntKind.bits,IntKind.signed];omega
 clear h hn hc hW hWd f0 s0 hsrc bb hw1 b1 hk s1 bR hw0 h0 hl hm
 go_enter Tryz.func155,Tryz.ntmps155
 go_upto_region 4 with (first|(go_at_call 158;refine (C158.out _).mono ?_;rintro e w' ⟨rfl,rfl⟩)|(go_at_call 231;refine (C231.out _).mono ?_;rintro e w' ⟨rfl,rfl⟩))
 rw[←HW0.out]
 clear hmk hr1 hr2 hr3 hr4
 go_wp2_with (go_at_call 193;refine (C193.out _ _).mono ?_;rintro e w2 ⟨rfl,hw2⟩;have F2:Hid (ZF w1 w2):=(by show Fr _ _ _;rw[hw2];exact (Fr.refl _ _).alloc _);clear hw2;obtain⟨q0,q1,qf⟩:=lm_cells ((F2.out.block _ hlt (fun h=>h)).trans HBR.out))
 refine bodyPost_ret (v:=.agg #[.int .u8 d,.slice (some ⟨w.heap.size+1,0,none⟩) n n]) (by simp[results,Tryz.f155,go_sem,q0,q1]) rfl ⟨_,_,rfl,?_⟩
 have f2:Fr (Eq w.heap.size) w2 ((w2.setCell ⟨w.heap.size,0,none⟩ (.int .u8 d)).setCell ⟨w.heap.size,1,none⟩ (.slice (some ⟨w.heap.size+1,0,none⟩) n n)):=((Fr.refl _ w2).setR _).setR _
 obtain⟨h1,h2,h3,h4⟩:=HN.out
 have hb:=(F2.out.block _ (zG HB1.out).1 (fun h=>h)).trans HB1.out
 refine⟨(F1.out.trans F2.out).transNew f2 (fun b e=>.inl (by omega)),h1,_,_,_,_,rfl,h1,Nat.le_refl _,h2,h4,h3,by show w.heap.size≤w.heap.size+1;omega,fun j u hu=>?_⟩
 rw[zC ((f2.block _ (zG hb).1 (by omega)).trans hb),Nat.zero_add]
 simpa using hu
theorem pt_cells{w1:World}{b:Nat}{v0 v1 v2 v3 v4 v5:Value}(h:w1.heap[b]?=some (.cells #[v0,v1,v2,v3,v4,v5] 115 (0,0))):w1.cell? ⟨b,0,none⟩=some v0∧w1.cell? ⟨b,1,none⟩=some v1∧w1.cell? ⟨b,2,none⟩=some v2∧w1.cell? ⟨b,3,none⟩=some v3∧w1.cell? ⟨b,4,none⟩=some v4∧w1.cell? ⟨b,5,none⟩=some v5∧∀k,w1.frozen? ⟨b,k,none⟩=false:=by
 refine⟨?_,?_,?_,?_,?_,?_,fun k=>zF h k⟩<;>(rw[zC h];rfl)
def PmPost (d:Nat) (xs:List Nat) (w:World) (e:Ending) (w':World):Prop :=
 ∃x y z m:Nat,e=.returned (.agg #[.float .f64 x,.float .f64 y,.float .f64 z,.float .f64 m,.int .u8 d,.bool true])∧Hid (ZF w w'∧xs=numsOf d (x,y,z,m))
theorem nums_slice{P:Nat→Prop}{xs:List Nat}{w:World}{v:Value}(h:NumsAt P w v xs)(h0:0 < xs.length):∃b o c:Nat,v=.slice (some ⟨b,o,none⟩) xs.length c:=by
 obtain⟨_,a,cap,rfl,_,_,h4⟩:=h
 obtain⟨b,o,rfl,_⟩:=h4 h0
 exact⟨b,o,cap,rfl⟩
theorem line79(d:Nat)(hd:d≤3){P:Nat→Prop}{xs:List Nat}{w:World}{b o n c:Nat}{kv:Value}(h:NumsAt P w (.slice (some ⟨b,o,none⟩) n c) xs)(h0:0 < n)(hl:n≤30000)(hm:n % wd d=0):Calls Tryz.prog 79 #[.agg #[.int .i64 2,.int .i64 d,.slice (some ⟨b,o,none⟩) n c,kv]] w (LmPost d xs w):=by
 have C155:Hid (∀w1,ZF w w1→Calls Tryz.prog 155 #[.slice (some ⟨b,o,none⟩) n c,.int .i64 d] w1 (LmPost d xs w1)):=fun w1 f=>seq155 d hd (CellsAt.kept h (fun k _ hl=>f.block k hl (fun h=>h))) h0 hl hm
 have C161:=zH ac161
 clear h h0 hl hm
 have bb:=two_allocs w (.cells #[.int .i64 2,.int .i64 d,.slice (some ⟨b,o,none⟩) n c,kv] 27) (.cells #[.int .u8 0,.slice none 0 0] 121)
 obtain⟨w0,hw0⟩:∃w0,w0=(w.alloc (.cells #[.int .i64 2,.int .i64 d,.slice (some ⟨b,o,none⟩) n c,kv] 27)).alloc (.cells #[.int .u8 0,.slice none 0 0] 121):=⟨_,rfl⟩
 rw[←hw0] at bb
 have F0:Hid (ZF w w0):=by show Fr _ _ _;rw[hw0];exact ((Fr.refl _ w).alloc _).alloc _
 have HW0:=zH hw0
 have C:=zH (C155.out w0 F0.out)
 have HR:=zH bb.2
 obtain⟨p0,p1,p2,p3⟩:=bx_cells bb.1
 clear bb hw0
 go_enter Tryz.func79,Tryz.ntmps79
 go_upto_region 1 with fail
 rw[←HW0.out]
 go_wp2_with (first|(go_at_call 155;refine C.out.mono ?_;rintro e w2 ⟨g,n',rfl,hp⟩;have HP:=zH hp.out;clear hp)|(go_at_call 161;refine (C161.out _ _ _ _ _ _).mono ?_;rintro e w3 ⟨rfl,hw3⟩;have F3:Hid (ZF w2 w3):=(by show Fr _ _ _;rw[hw3];exact ((Fr.refl _ _).alloc _).alloc _);clear hw3;have hr:=((HP.out.1.trans F3.out).block _ (zG HR.out).1 (fun h=>h)).trans HR.out;obtain⟨r0,r1,rf⟩:=lm_cells hr;clear hr))
 refine bodyPost_ret (v:=.agg #[.int .u8 d,.slice (some ⟨g,0,none⟩) n' n']) (by simp[results,Tryz.f79,go_sem,r0,r1]) rfl ⟨_,_,rfl,?_⟩
 have f4:Fr (Eq (w.heap.size+1)) w3 ((w3.setCell ⟨w.heap.size+1,0,none⟩ (.int .u8 d)).setCell ⟨w.heap.size+1,1,none⟩ (.slice (some ⟨g,0,none⟩) n' n')):=((Fr.refl _ w3).setR _).setR _
 have h1:=(zG HR.out).1
 have h2:=F0.out.size
 refine⟨((F0.out.trans HP.out.1).trans F3.out).transNew f4 (fun b e=>.inl (by omega)),HP.out.2.1,?_⟩
 exact (LnE.kp d).mono (fun b hb _=>Nat.le_trans h2 hb) ((LnE.kp d).kept (fun b hb hl=>f4.block b hl (by omega)) ((LnE.kp d).kept (fun b _ hl=>F3.out.block b hl (fun h=>h)) HP.out.2.2))
theorem point77(d:Nat)(hd:d≤3){P:Nat→Prop}{xs:List Nat}{w:World}{b o n c:Nat}{kv:Value}(h:NumsAt P w (.slice (some ⟨b,o,none⟩) n c) xs)(hx:xs.length=wd d)(hn:n=xs.length):Calls Tryz.prog 77 #[.agg #[.int .i64 1,.int .i64 d,.slice (some ⟨b,o,none⟩) n c,kv]] w (PmPost d xs w):=by
 have hW:=wd_pos d
 have C155:Hid (∀w1,ZF w w1→Calls Tryz.prog 155 #[.slice (some ⟨b,o,none⟩) n c,.int .i64 d] w1 (LmPost d xs w1)):=fun w1 f=>seq155 d hd (CellsAt.kept h (fun k _ hl=>f.block k hl (fun h=>h))) (by omega) (by omega) (by rw[hn,hx];exact Nat.mod_self _)
 have C156:Hid (∀(g n':Nat) w1,n'=xs.length→Calls Tryz.prog 156 #[.agg #[.int .u8 d,.slice (some ⟨g,0,none⟩) n' n']] w1 fun e w'=>e=.returned (.int .i64 1)∧ZF w1 w'):=fun g n' w1 h'=>ac156 d hd g 0 n' n' 1 w1 (by omega) (by omega)
 have C160:Hid (∀(g n':Nat) w1 (Q:Nat→Prop),LnE d Q w1 [.int .u8 d,.slice (some ⟨g,0,none⟩) n' n'] xs→Calls Tryz.prog 160 #[.agg #[.int .u8 d,.slice (some ⟨g,0,none⟩) n' n'],.int .i64 0] w1 fun e w'=>e=.returned (.agg #[.float .f64 (plc d xs 0).1,.float .f64 (plc d xs 0).2.1,.float .f64 (plc d xs 0).2.2.1,.float .f64 (plc d xs 0).2.2.2,.int .u8 d])∧ZF w1 w'):=fun g n' w1 Q hE=>by
  obtain⟨ga,oa,na,ca,e,e1,_,_,e2,e3,_,e4⟩:=hE
  simp only[List.cons.injEq,Value.slice.injEq,Option.some.injEq,Addr.mk.injEq,and_true,true_and] at e
  obtain⟨⟨rfl,rfl⟩,rfl,rfl⟩:=e
  exact ac160 d hd g 0 n' n' 0 xs w1 e1 (by omega) (by rw[e1,hx];omega) e4
 have C159:=zH ac159
 have HX:Hid (xs=numsOf d (plc d xs 0)):=by
  show _=_
  rw[numsOf_plc d hd xs 0 (by omega),Nat.zero_mul,List.drop_zero,←hx,List.take_length]
 obtain⟨p,hp⟩:∃p,p=plc d xs 0:=⟨_,rfl⟩
 rw[←hp] at C160 HX
 obtain⟨x,y,z,m⟩:=p
 clear h hp hx hn hW
 have bb:=two_allocs w (.cells #[.int .i64 1,.int .i64 d,.slice (some ⟨b,o,none⟩) n c,kv] 27) (.cells #[.float .f64 0,.float .f64 0,.float .f64 0,.float .f64 0,.int .u8 0,.bool false] 115)
 obtain⟨w0,hw0⟩:∃w0,w0=(w.alloc (.cells #[.int .i64 1,.int .i64 d,.slice (some ⟨b,o,none⟩) n c,kv] 27)).alloc (.cells #[.float .f64 0,.float .f64 0,.float .f64 0,.float .f64 0,.int .u8 0,.bool false] 115):=⟨_,rfl⟩
 rw[←hw0] at bb
 have F0:Hid (ZF w w0):=by show Fr _ _ _;rw[hw0];exact ((Fr.refl _ w).alloc _).alloc _
 have HW0:=zH hw0
 have C:=zH (C155.out w0 F0.out)
 have HB:=zH bb.1
 have HR:=zH bb.2
 obtain⟨p0,p1,p2,p3⟩:=bx_cells bb.1
 have hsf:=st_fl
 clear bb hw0 C155
 go_enter Tryz.func77,Tryz.ntmps77
 go_upto_region 1 with fail
 rw[←HW0.out]
 go_upto_region 2 with (go_at_call 155;refine C.out.mono ?_;rintro e w2 ⟨g,n',rfl,hp⟩;have HP:=zH hp.out;clear hp)
 obtain⟨w3,hw3⟩:∃w3,w3=w2.alloc (.cells #[.int .u8 d,.slice (some ⟨g,0,none⟩) n' n'] 119):=⟨_,rfl⟩
 have b3:=zN w2 (.cells #[.int .u8 d,.slice (some ⟨g,0,none⟩) n' n'] 119)
 rw[←hw3] at b3 ⊢
 have F3:Hid (ZF w0 w3):=by show Fr _ _ _;rw[hw3];exact HP.out.1.alloc _
 have L3:Hid (LnE d (fun b=>w0.heap.size≤b) w3 [.int .u8 d,.slice (some ⟨g,0,none⟩) n' n'] xs):=(LnE.kp d).kept (fun b _ hl=>by rw[hw3];exact Below.heap_alloc w2 _ b hl) HP.out.2.2
 have B3:=zH b3
 have C6:=zH (C156.out g n' w3 HP.out.2.1)
 obtain⟨l0,l1,lf⟩:=lm_cells b3
 obtain⟨p0,p1,p2,p3⟩:=bx_cells ((F3.out.block _ (zG HB.out).1 (fun h=>h)).trans HB.out)
 clear hw3 b3 C156 HP C
 go_upto_region 4 with (go_at_call 156;refine C6.out.mono ?_;rintro e w4 ⟨rfl,f4⟩;have F4:=zH f4;clear f4)
 have L4:=zH ((LnE.kp d).kept (fun b _ hl=>F4.out.block b hl (fun h=>h)) L3.out)
 have C0:=zH (C160.out g n' w4 _ L4.out)
 obtain⟨l0,l1,lf⟩:=lm_cells ((F4.out.block _ (zG B3.out).1 (fun h=>h)).trans B3.out)
 clear p0 p1 p2 p3 C6
 go_wp2_with (first|(go_at_call 160;refine C0.out.mono ?_;rintro e w5 ⟨rfl,f5⟩;have F5:=zH f5;clear f5)|(go_at_call 159;refine (C159.out _ _ _ _ _ _).mono ?_;rintro e w6 ⟨rfl,hw6⟩;have F6:Hid (ZF w5 w6):=(by show Fr _ _ _;rw[hw6];exact ((Fr.refl _ _).alloc _).alloc _);clear hw6;obtain⟨r0,r1,r2,r3,r4,r5,rf⟩:=pt_cells (((((F3.out.trans F4.out).trans F5.out).trans F6.out).block _ (zG HR.out).1 (fun h=>h)).trans HR.out)))
 refine bodyPost_ret (v:=.agg #[.float .f64 x,.float .f64 y,.float .f64 z,.float .f64 m,.int .u8 d,.bool true]) (by simp[results,Tryz.f77,go_sem,r0,r1,r2,r3,r4,r5]) rfl ⟨_,_,_,_,rfl,?_⟩
 exact⟨(F0.out.trans (((F3.out.trans F4.out).trans F5.out).trans F6.out)).transNew (((((((Fr.refl (Eq (w.heap.size+1)) w6).setR _).setR _).setR _).setR _).setR _).setR _) (fun b e=>.inl (by omega)),HX.out⟩
open Go.RowKit
def RmPost {α:Type} (E:(Nat→Prop)→World→List Value→α→Prop) (s d:Nat) (xs:List α) (w:World) (e:Ending) (w':World):Prop :=
 ∃g n c:Nat,e=.returned (.agg #[.slice (some ⟨g,0,none⟩) n c,.int .u8 d])∧Hid (ZF w w'∧RwE E s d (fun b=>w.heap.size≤b) w' [.slice (some ⟨g,0,none⟩) n c,.int .u8 d] xs)
theorem gat_parts{D:Nat}{P:Nat→Prop}{w:World}{k dm:Int}{na:Option Addr}{n nc:Nat}{ka:Option Addr}{m kc:Nat}{K d:Int}{x:List Nat}{ks:List G}(h:GAt (D+1) P w [.int .i64 k,.int .i64 dm,.slice na n nc,.slice ka m kc] (G.mk K d x ks)):
  k=K∧dm=d∧n=x.length∧NumsAt P w (.slice na n nc) x∧RowsAt (GAt D) P 4 w (.slice ka m kc) ks:=by
 obtain⟨nv,kv,e,h1,h2,_⟩:=h
 simp only[List.cons.injEq,Value.int.injEq,true_and,and_true] at e
 obtain⟨rfl,rfl,rfl,rfl⟩:=e
 obtain⟨_,_,_,e,_⟩:=id h1
 injection e with _ e _
 exact⟨rfl,rfl,e,h1,h2⟩
theorem all2(a b:Value)(ha:a.oneCell'=true)(hb:b.oneCell'=true):∀u∈[a,b],u.oneCell'=true:=by
 intro u hu
 simp only[List.mem_cons,List.not_mem_nil,or_false] at hu
 rcases hu with rfl|rfl
 ·exact ha
 ·exact hb
theorem all6(a b c d e:Nat):∀u∈[Value.float .f64 a,.float .f64 b,.float .f64 c,.float .f64 d,.int .u8 e,.bool true],u.oneCell'=true:=by
 intro u hu
 simp only[List.mem_cons,List.not_mem_nil,or_false] at hu
 rcases hu with rfl|rfl|rfl|rfl|rfl|rfl<;>rfl
theorem geo81{D d:Nat}(hd:d≤3){P:Nat→Prop}{xs:List (List Nat)}{w:World}{ka:Option Addr}{n kc:Nat}{nv:Value}(h:RowsAt (GAt (D+1)) P 4 w (.slice ka n kc) (xs.map (fun x=>G.mk 2 d x [])))(hn0:0 < xs.length)(hx4:xs.length≤4096)(hx:∀x∈xs,0 < x.length∧x.length≤30000∧x.length % wd d=0):
  Calls Tryz.prog 81 #[.agg #[.int .i64 3,.int .i64 d,nv,.slice ka n kc]] w (RmPost (LnE d) 2 d xs w):=by
 obtain⟨b,o,cap,hab⟩:∃(b o cap:Nat),Value.slice ka n kc=.slice (some ⟨b,o,none⟩) (xs.map (fun x=>G.mk 2 d x [])).length cap:=by
  obtain⟨b,o,_,_,_,_,_,_,_,_,⟨cap,hab⟩,_⟩:=kid_at h (i:=0) (by rw[List.length_map];exact hn0)
  exact⟨b,o,cap,hab⟩
 injection hab with e1 e2 e3
 rw[List.length_map] at e2
 subst e1 e3
 have hn4:n≤4096:=by omega
 have hn1:0 < n:=by omega
 have HK:=zH h
 have HN:=zH e2
 have HX:=zH hx
 obtain⟨i0,hi0,hz0,hz1,hz2⟩:=info_parts info121
 have bb:=two_allocs w (.cells #[.int .i64 3,.int .i64 d,nv,.slice (some ⟨b,o,none⟩) n kc] 27) (.cells #[.slice none 0 0,.int .u8 0] 126)
 obtain⟨w0,hw0⟩:∃w0,w0=(w.alloc (.cells #[.int .i64 3,.int .i64 d,nv,.slice (some ⟨b,o,none⟩) n kc] 27)).alloc (.cells #[.slice none 0 0,.int .u8 0] 126):=⟨_,rfl⟩
 rw[←hw0] at bb
 have F0:Hid (ZF w w0):=by show Fr _ _ _;rw[hw0];exact ((Fr.refl _ w).alloc _).alloc _
 have S0:Hid (w0.heap.size=w.heap.size+2):=by show _=_;rw[hw0,sz1,sz1]
 have HB:=zH bb
 have HW0:=zH hw0
 obtain⟨p0,p1,p2,p3⟩:=bx_cells bb.1
 clear h e2 hx hx4 hn0 bb hw0
 go_enter Tryz.func81,Tryz.ntmps81
 go_upto_region 1 with fail
 rw[←HW0.out]
 go_upto_region 3 with fail
 clear p0 p1 p2 p3
 go_loopw [3,9] (fun cv iv wr=>∃(i:Nat) (va:Option Addr) (vc:Nat),cv=.slice va i vc∧iv=.int .i64 (i:Int)∧i≤n∧Hid (Fr (fun b=>w0.heap.size≤b) w0 wr∧OwnRows (LnE d) w0.heap.size 121 2 wr (.slice va i vc) (xs.take i))) (fun _ iv _=>n - (intOf iv).toNat)
 case atStart=>exact⟨0,none,0,rfl,rfl,Nat.zero_le _,Fr.refl _ _,OwnRows.nil⟩
 case round =>
  obtain⟨i,va,vc,rfl,rfl,hi,hrel⟩:=hrel
  have FR:Hid (ZF w wr):=F0.out.transNew hrel.out.1 (fun b e=>.inl (by have:=F0.out.size;omega))
  have HBX:=zH ((hrel.out.1.block w.heap.size (zG HB.out.1).1 (by have:=S0.out;omega)).trans HB.out.1)
  have HRS:=zH ((hrel.out.1.block (w.heap.size+1) (zG HB.out.2).1 (by have:=S0.out;omega)).trans HB.out.2)
  have OW:=zH hrel.out.2
  have FW:=zH hrel.out.1
  clear hrel
  by_cases hlt:i < n
  ·have hix:i < xs.length:=by rw[←HN.out];exact hlt
   obtain⟨b1,o1,k',dm',na',N',nc',ka',M',kc',⟨cap1,hab⟩,hb,_,hE,c0,c1,c2,c3⟩:=kid_at HK.out (i:=i) (by rw[List.length_map];exact hix)
   injection hab with hab hab2 hab3
   injection hab with hab
   injection hab with hab hab4 _
   clear hab2 hab3
   subst hab hab4
   obtain⟨x,hxx⟩:∃x,x=xs[i]:=⟨_,rfl⟩
   rw[List.getElem_map,←hxx] at hE
   have HXI:=zH (HX.out x (by rw[hxx];exact List.getElem_mem _))
   obtain⟨hk',hd',hN',hNS,hKS⟩:=gat_parts hE
   subst hk' hd'
   have HTK:Hid (xs.take (i+1)=xs.take i++[x]):=by show _=_;rw[List.take_succ_eq_append_getElem hix,hxx]
   have c0':=FR.out.cell c0 (fun h=>h)
   have c1':=FR.out.cell c1 (fun h=>h)
   have c2':=FR.out.cell c2 (fun h=>h)
   have c3':=FR.out.cell c3 (fun h=>h)
   obtain⟨wk,hwk⟩:∃wk,wk=wr.alloc (.cells #[.int .i64 2,.int .i64 d,.slice na' N' nc',.slice ka' M' kc'] 27):=⟨_,rfl⟩
   have fk:ZF wr wk:=by rw[hwk];exact (Fr.refl _ wr).alloc _
   have bk:wk.heap[wr.heap.size]?=some (.cells #[.int .i64 2,.int .i64 d,.slice na' N' nc',.slice ka' M' kc'] 27 (0,0)):=by rw[hwk];exact zN wr _
   have hlen:(xs.take i).length=i:=by rw[List.length_take];omega
   have CEL:Hid (Calls Tryz.prog 79 #[.agg #[.int .i64 2,.int .i64 d,.slice na' N' nc',.slice ka' M' kc']] wk (LmPost d x wk)):=by
    obtain⟨b9,o9,c9,e9⟩:=nums_slice hNS (HXI.out.1)
    rw[←hN'] at e9
    have h9:=CellsAt.kept hNS (fun b _ hl=>(FR.out.trans fk).block b hl (fun h=>h))
    rw[e9] at h9 ⊢
    exact line79 d hd h9 (by have:=HXI.out.1;omega) (by have:=HXI.out.2.1;omega) (by rw[hN'];exact HXI.out.2.2)
   have HNX:Hid (∀(w5:World) (cc:List Value),ZF wk w5→cc.length=2→LnE d (fun b=>wk.heap.size≤b) w5 cc x→∃cs,w5.ownsRow w0.heap.size 121 2 (.slice va i vc) i cs∧∀(o:Obj) (w7:World) (v':Value),w7.ownsRow w0.heap.size 121 2 v' (i+1) (cs++cc)→(w5.alloc o).grownBy w7 (Value.slice va i vc).ownBlock→(v'.ownBlock=(Value.slice va i vc).ownBlock∨v'.ownBlock=some (w5.alloc o).heap.size)→OwnRows (LnE d) w0.heap.size 121 2 w7 v' (xs.take i++[x])∧Fr (fun b=>w0.heap.size≤b) w5 w7):=fun w5 cc f hcc hee=>by
    have h1:=rows_next (LnE.kp d) OW.out (wc:=w5) (fun b _ hl=>(fk.trans f).block b hl (fun h=>h)) FW.out.size hcc ((LnE.kp d).mono (fun b hb _=>Nat.le_trans fk.size hb) hee)
    rw[hlen] at h1
    exact h1
   have BK:=zH bk
   have FK:=zH fk
   have HWK:=zH hwk
   have K3:Hid (i+1≤maxLen):=by show _≤_;unfold maxLen;omega
   have K4:Hid ((i+1)*32≤140737488355328):=by show _≤_;omega
   obtain⟨p0,p1,p2,p3⟩:=bx_cells ((fk.block _ (zG HBX.out).1 (fun h=>h)).trans HBX.out)
   clear hxx fk hE hwk bk hb c0 c1 c2 c3 hix hN' hNS hKS hlen
   go_upto_region 5 with fail
   rw[←HWK.out]
   clear c0' c1' c2' c3'
   obtain⟨e0,e1,e2,e3⟩:=bx_cells BK.out
   go_upto_region 7 with (first|(go_at_call 79;refine CEL.out.mono ?_;rintro e w5 ⟨g2,n2,rfl,hp⟩;have HP:=zH ((⟨hp.out.1,hp.out.2.2⟩:_∧_));clear hp;obtain⟨cs,hown,hnx⟩:=HNX.out w5 [.int .u8 d,.slice (some ⟨g2,0,none⟩) n2 n2] HP.out.1 rfl HP.out.2;have OWN:=zH hown;have NX:=zH hnx;clear hown hnx;have K5:Hid (w0.heap.size≤(w5.alloc (.cells [.int .u8 d,.slice (some ⟨g2,0,none⟩) n2 n2].toArray 121)).heap.size):=(by show _≤_;rw[sz1];have h1:=FW.out.size;have h2:=FK.out.size;have h3:=HP.out.1.size;omega))|(at_builtin;refine wpList_append_own_at _ rfl _ _ 124 rfl w0.heap.size 121 i0 (.agg #[.int .u8 0,.slice none 0 0]) 2 32 Tryz.underlying124 hi0 hz0 hz1 hz2 rfl (by decide) _ i cs rfl (OWN.out.alloc _) ⟨_,0,none⟩ 1 1 [.int .u8 d,.slice (some ⟨g2,0,none⟩) n2 n2] rfl rfl (cell2_new _ _ _ _) (all2 _ _ rfl rfl) K3.out K4.out K5.out ?_;intro v' w7 hown1 hgrow1 _ hat;obtain⟨g6,cap6,rfl,_,_⟩:=own_capE hown1 (Nat.succ_pos _);have HH:=zH (NX.out _ _ _ hown1 hgrow1 hat);clear hown1 hgrow1 hat))
   have HREL:Hid (Fr (fun b=>w0.heap.size≤b) w0 w7∧OwnRows (LnE d) w0.heap.size 121 2 w7 (.slice (some ⟨g6,0,none⟩) (i+1) cap6) (xs.take (i+1))):=by
    refine⟨((FW.out.trans (FK.out.weak (fun _ h=>h.elim))).trans (HP.out.1.weak (fun _ h=>h.elim))).trans HH.out.2,?_⟩
    rw[HTK.out]
    exact HH.out.1
   clear HH NX OWN K5 HP BK FK HWK HNX e0 e1 e2 e3 p0 p1 p2 p3 CEL HTK HXI
   go_wp2_with fail
   go_roundw
   case rel=>exact⟨i+1,_,_,rfl,by go_num,by omega,HREL.out⟩
   case measure=>simp[intOf];omega
  ·have hin:i=n:=by omega
   subst hin
   have hT:xs.take i=xs:=List.take_of_length_le (by rw[←HN.out];omega)
   have OD:=OW.out
   rw[hT] at OD
   obtain⟨cs,ho⟩:=OD.own
   have hl1:xs.length=i:=HN.out.symm
   rw[hl1] at ho
   obtain⟨g3,c3,hv,hg3,_⟩:=own_capE ho hn1
   injection hv with e1 _ e3
   subst e1 e3
   have HRW:RowsAt (LnE d) (fun b=>w0.heap.size≤b) 2 wr (.slice (some ⟨g3,0,none⟩) i vc) xs:=OD.done (LnE.kp d) (by decide)
   have CN:Hid (Calls Tryz.prog 163 #[.slice (some ⟨g3,0,none⟩) i vc] wr (NwPost (LnE d) 2 d (fun b=>w0.heap.size≤b) xs wr)):=by
    exact new163 hd (fun b hb=>Nat.le_trans FW.out.size hb) HRW hn1 hn4
   obtain⟨p0,p1,p2,p3⟩:=bx_cells HBX.out
   have hlr:w.heap.size+1 < wr.heap.size:=(zG HRS.out).1
   have HNN:=zH hn1
   clear hT OD ho hl1 HRW hn1
   have hne0:¬((i:Int)=0):=by have:=HNN.out;omega
   go_wp2_with (go_at_call 163;refine CN.out.mono ?_;rintro e w5 ⟨g7,n7,c7,rfl,hp⟩;have HP:=zH hp.out;clear hp;obtain⟨r0,r1,rf⟩:=lm_cells ((HP.out.1.block _ hlr (fun h=>h)).trans HRS.out))
   refine bodyPost_ret (v:=.agg #[.slice (some ⟨g7,0,none⟩) n7 c7,.int .u8 d]) (by simp[results,Tryz.f81,go_sem,r0,r1]) rfl ⟨_,_,_,rfl,?_⟩
   have f6:Fr (Eq (w.heap.size+1)) w5 ((w5.setCell ⟨w.heap.size+1,0,none⟩ (.slice (some ⟨g7,0,none⟩) n7 c7)).setCell ⟨w.heap.size+1,1,none⟩ (.int .u8 d)):=((Fr.refl _ w5).setR _).setR _
   have h0:=F0.out.size
   have hs0:=S0.out
   refine⟨(FR.out.trans HP.out.1).transNew f6 (fun b e=>.inl (by omega)),?_⟩
   exact (RwE.kp (LnE.kp d) (by decide) d).mono (fun b hb _=>Nat.le_trans h0 hb) ((RwE.kp (LnE.kp d) (by decide) d).kept (fun b hb hl=>f6.block b hl (by omega)) HP.out.2.2)
theorem geo83{D d:Nat}(hd:d≤3){P:Nat→Prop}{xs:List (List Nat)}{w:World}{ka:Option Addr}{n kc:Nat}{nv:Value}(h:RowsAt (GAt (D+1)) P 4 w (.slice ka n kc) (xs.map (fun x=>G.mk 1 d x [])))(hn0:0 < xs.length)(hx4:xs.length≤4096)(hx:∀x∈xs,x.length=wd d):
  Calls Tryz.prog 83 #[.agg #[.int .i64 4,.int .i64 d,nv,.slice ka n kc]] w (RmPost (PtE d) 6 d xs w):=by
 obtain⟨b,o,cap,hab⟩:∃(b o cap:Nat),Value.slice ka n kc=.slice (some ⟨b,o,none⟩) (xs.map (fun x=>G.mk 1 d x [])).length cap:=by
  obtain⟨b,o,_,_,_,_,_,_,_,_,⟨cap,hab⟩,_⟩:=kid_at h (i:=0) (by rw[List.length_map];exact hn0)
  exact⟨b,o,cap,hab⟩
 injection hab with e1 e2 e3
 rw[List.length_map] at e2
 subst e1 e3
 have hn4:n≤4096:=by omega
 have hn1:0 < n:=by omega
 have HK:=zH h
 have HN:=zH e2
 have HX:=zH hx
 obtain⟨i0,hi0,hz0,hz1,hz2⟩:=info_parts info115
 have bb:=two_allocs w (.cells #[.int .i64 4,.int .i64 d,nv,.slice (some ⟨b,o,none⟩) n kc] 27) (.cells #[.slice none 0 0,.int .u8 0] 130)
 obtain⟨w0,hw0⟩:∃w0,w0=(w.alloc (.cells #[.int .i64 4,.int .i64 d,nv,.slice (some ⟨b,o,none⟩) n kc] 27)).alloc (.cells #[.slice none 0 0,.int .u8 0] 130):=⟨_,rfl⟩
 rw[←hw0] at bb
 have F0:Hid (ZF w w0):=by show Fr _ _ _;rw[hw0];exact ((Fr.refl _ w).alloc _).alloc _
 have S0:Hid (w0.heap.size=w.heap.size+2):=by show _=_;rw[hw0,sz1,sz1]
 have HB:=zH bb
 have HW0:=zH hw0
 obtain⟨p0,p1,p2,p3⟩:=bx_cells bb.1
 clear h e2 hx hx4 hn0 bb hw0
 go_enter Tryz.func83,Tryz.ntmps83
 go_upto_region 1 with fail
 rw[←HW0.out]
 go_upto_region 3 with fail
 clear p0 p1 p2 p3
 go_loopw [3,9] (fun cv iv wr=>∃(i:Nat) (va:Option Addr) (vc:Nat),cv=.slice va i vc∧iv=.int .i64 (i:Int)∧i≤n∧Hid (Fr (fun b=>w0.heap.size≤b) w0 wr∧OwnRows (PtE d) w0.heap.size 115 6 wr (.slice va i vc) (xs.take i))) (fun _ iv _=>n - (intOf iv).toNat)
 case atStart=>exact⟨0,none,0,rfl,rfl,Nat.zero_le _,Fr.refl _ _,OwnRows.nil⟩
 case round =>
  obtain⟨i,va,vc,rfl,rfl,hi,hrel⟩:=hrel
  have FR:Hid (ZF w wr):=F0.out.transNew hrel.out.1 (fun b e=>.inl (by have:=F0.out.size;omega))
  have HBX:=zH ((hrel.out.1.block w.heap.size (zG HB.out.1).1 (by have:=S0.out;omega)).trans HB.out.1)
  have HRS:=zH ((hrel.out.1.block (w.heap.size+1) (zG HB.out.2).1 (by have:=S0.out;omega)).trans HB.out.2)
  have OW:=zH hrel.out.2
  have FW:=zH hrel.out.1
  clear hrel
  by_cases hlt:i < n
  ·have hix:i < xs.length:=by rw[←HN.out];exact hlt
   obtain⟨b1,o1,k',dm',na',N',nc',ka',M',kc',⟨cap1,hab⟩,hb,_,hE,c0,c1,c2,c3⟩:=kid_at HK.out (i:=i) (by rw[List.length_map];exact hix)
   injection hab with hab hab2 hab3
   injection hab with hab
   injection hab with hab hab4 _
   clear hab2 hab3
   subst hab hab4
   obtain⟨x,hxx⟩:∃x,x=xs[i]:=⟨_,rfl⟩
   rw[List.getElem_map,←hxx] at hE
   have HXI:=zH (HX.out x (by rw[hxx];exact List.getElem_mem _))
   obtain⟨hk',hd',hN',hNS,hKS⟩:=gat_parts hE
   subst hk' hd'
   have HTK:Hid (xs.take (i+1)=xs.take i++[x]):=by show _=_;rw[List.take_succ_eq_append_getElem hix,hxx]
   have c0':=FR.out.cell c0 (fun h=>h)
   have c1':=FR.out.cell c1 (fun h=>h)
   have c2':=FR.out.cell c2 (fun h=>h)
   have c3':=FR.out.cell c3 (fun h=>h)
   obtain⟨wk,hwk⟩:∃wk,wk=wr.alloc (.cells #[.int .i64 1,.int .i64 d,.slice na' N' nc',.slice ka' M' kc'] 27):=⟨_,rfl⟩
   have fk:ZF wr wk:=by rw[hwk];exact (Fr.refl _ wr).alloc _
   have bk:wk.heap[wr.heap.size]?=some (.cells #[.int .i64 1,.int .i64 d,.slice na' N' nc',.slice ka' M' kc'] 27 (0,0)):=by rw[hwk];exact zN wr _
   have hlen:(xs.take i).length=i:=by rw[List.length_take];omega
   have CEL:Hid (Calls Tryz.prog 77 #[.agg #[.int .i64 1,.int .i64 d,.slice na' N' nc',.slice ka' M' kc']] wk (PmPost d x wk)):=by
    obtain⟨b9,o9,c9,e9⟩:=nums_slice hNS (by have:=wd_pos d;have:=HXI.out;omega)
    rw[←hN'] at e9
    have h9:=CellsAt.kept hNS (fun b _ hl=>(FR.out.trans fk).block b hl (fun h=>h))
    rw[e9] at h9 ⊢
    exact point77 d hd h9 HXI.out hN'
   have HNX:Hid (∀(w5:World) (cc:List Value),ZF wk w5→cc.length=6→PtE d (fun b=>wk.heap.size≤b) w5 cc x→∃cs,w5.ownsRow w0.heap.size 115 6 (.slice va i vc) i cs∧∀(o:Obj) (w7:World) (v':Value),w7.ownsRow w0.heap.size 115 6 v' (i+1) (cs++cc)→(w5.alloc o).grownBy w7 (Value.slice va i vc).ownBlock→(v'.ownBlock=(Value.slice va i vc).ownBlock∨v'.ownBlock=some (w5.alloc o).heap.size)→OwnRows (PtE d) w0.heap.size 115 6 w7 v' (xs.take i++[x])∧Fr (fun b=>w0.heap.size≤b) w5 w7):=fun w5 cc f hcc hee=>by
    have h1:=rows_next (PtE.kp d) OW.out (wc:=w5) (fun b _ hl=>(fk.trans f).block b hl (fun h=>h)) FW.out.size hcc ((PtE.kp d).mono (fun b hb _=>Nat.le_trans fk.size hb) hee)
    rw[hlen] at h1
    exact h1
   have BK:=zH bk
   have FK:=zH fk
   have HWK:=zH hwk
   have K3:Hid (i+1≤maxLen):=by show _≤_;unfold maxLen;omega
   have K4:Hid ((i+1)*48≤140737488355328):=by show _≤_;omega
   obtain⟨p0,p1,p2,p3⟩:=bx_cells ((fk.block _ (zG HBX.out).1 (fun h=>h)).trans HBX.out)
   clear hxx fk hE hwk bk hb c0 c1 c2 c3 hix hN' hNS hKS hlen
   go_upto_region 5 with fail
   rw[←HWK.out]
   clear c0' c1' c2' c3'
   obtain⟨e0,e1,e2,e3⟩:=bx_cells BK.out
   go_upto_region 7 with (first|(go_at_call 77;refine CEL.out.mono ?_;rintro e w5 ⟨x1,y1,z1,m1,rfl,hp⟩;have HP:=zH ((⟨hp.out.1,x1,y1,z1,m1,rfl,hp.out.2⟩:ZF wk w5∧PtE d (fun b=>wk.heap.size≤b) w5 [.float .f64 x1,.float .f64 y1,.float .f64 z1,.float .f64 m1,.int .u8 d,.bool true] x));clear hp;obtain⟨cs,hown,hnx⟩:=HNX.out w5 [.float .f64 x1,.float .f64 y1,.float .f64 z1,.float .f64 m1,.int .u8 d,.bool true] HP.out.1 rfl HP.out.2;have OWN:=zH hown;have NX:=zH hnx;clear hown hnx;have K5:Hid (w0.heap.size≤(w5.alloc (.cells [.float .f64 x1,.float .f64 y1,.float .f64 z1,.float .f64 m1,.int .u8 d,.bool true].toArray 115)).heap.size):=(by show _≤_;rw[sz1];have h1:=FW.out.size;have h2:=FK.out.size;have h3:=HP.out.1.size;omega))|(at_builtin;refine wpList_append_own_at _ rfl _ _ 57 rfl w0.heap.size 115 i0 (.agg #[.float .f64 0,.float .f64 0,.float .f64 0,.float .f64 0,.int .u8 0,.bool false]) 6 48 Tryz.underlying57 hi0 hz0 hz1 hz2 rfl (by decide) _ i cs rfl (OWN.out.alloc _) ⟨_,0,none⟩ 1 1 [.float .f64 x1,.float .f64 y1,.float .f64 z1,.float .f64 m1,.int .u8 d,.bool true] rfl rfl (cell6_new _ _ _ _ _ _ _ _) (all6 _ _ _ _ _) K3.out K4.out K5.out ?_;intro v' w7 hown1 hgrow1 _ hat;obtain⟨g6,cap6,rfl,_,_⟩:=own_capE hown1 (Nat.succ_pos _);have HH:=zH (NX.out _ _ _ hown1 hgrow1 hat);clear hown1 hgrow1 hat))
   have HREL:Hid (Fr (fun b=>w0.heap.size≤b) w0 w7∧OwnRows (PtE d) w0.heap.size 115 6 w7 (.slice (some ⟨g6,0,none⟩) (i+1) cap6) (xs.take (i+1))):=by
    refine⟨((FW.out.trans (FK.out.weak (fun _ h=>h.elim))).trans (HP.out.1.weak (fun _ h=>h.elim))).trans HH.out.2,?_⟩
    rw[HTK.out]
    exact HH.out.1
   clear HH NX OWN K5 HP BK FK HWK HNX e0 e1 e2 e3 p0 p1 p2 p3 CEL HTK HXI
   go_wp2_with fail
   go_roundw
   case rel=>exact⟨i+1,_,_,rfl,by go_num,by omega,HREL.out⟩
   case measure=>simp[intOf];omega
  ·have hin:i=n:=by omega
   subst hin
   have hT:xs.take i=xs:=List.take_of_length_le (by rw[←HN.out];omega)
   have OD:=OW.out
   rw[hT] at OD
   obtain⟨cs,ho⟩:=OD.own
   have hl1:xs.length=i:=HN.out.symm
   rw[hl1] at ho
   obtain⟨g3,c3,hv,hg3,_⟩:=own_capE ho hn1
   injection hv with e1 _ e3
   subst e1 e3
   have HRW:RowsAt (PtE d) (fun b=>w0.heap.size≤b) 6 wr (.slice (some ⟨g3,0,none⟩) i vc) xs:=OD.done (PtE.kp d) (by decide)
   have CN:Hid (Calls Tryz.prog 165 #[.slice (some ⟨g3,0,none⟩) i vc] wr (NwPost (PtE d) 6 d (fun b=>w0.heap.size≤b) xs wr)):=by
    exact (new165 hd HRW HN.out hn1 hn4).mono (fun e w' h=>by
     obtain⟨g,n,c,h1,h2,h3,h4⟩:=h
     exact⟨g,n,c,h1,h2,h3,(RwE.kp (PtE.kp d) (by decide) d).mono (fun b hb _=>Nat.le_trans FW.out.size hb) h4⟩)
   obtain⟨p0,p1,p2,p3⟩:=bx_cells HBX.out
   have hlr:w.heap.size+1 < wr.heap.size:=(zG HRS.out).1
   have HNN:=zH hn1
   clear hT OD ho hl1 HRW hn1
   have hne0:¬((i:Int)=0):=by have:=HNN.out;omega
   go_wp2_with (go_at_call 165;refine CN.out.mono ?_;rintro e w5 ⟨g7,n7,c7,rfl,hp⟩;have HP:=zH hp.out;clear hp;obtain⟨r0,r1,rf⟩:=lm_cells ((HP.out.1.block _ hlr (fun h=>h)).trans HRS.out))
   refine bodyPost_ret (v:=.agg #[.slice (some ⟨g7,0,none⟩) n7 c7,.int .u8 d]) (by simp[results,Tryz.f83,go_sem,r0,r1]) rfl ⟨_,_,_,rfl,?_⟩
   have f6:Fr (Eq (w.heap.size+1)) w5 ((w5.setCell ⟨w.heap.size+1,0,none⟩ (.slice (some ⟨g7,0,none⟩) n7 c7)).setCell ⟨w.heap.size+1,1,none⟩ (.int .u8 d)):=((Fr.refl _ w5).setR _).setR _
   have h0:=F0.out.size
   have hs0:=S0.out
   refine⟨(FR.out.trans HP.out.1).transNew f6 (fun b e=>.inl (by omega)),?_⟩
   exact (RwE.kp (PtE.kp d) (by decide) d).mono (fun b hb _=>Nat.le_trans h0 hb) ((RwE.kp (PtE.kp d) (by decide) d).kept (fun b hb hl=>f6.block b hl (by omega)) HP.out.2.2)
theorem geo85{D d:Nat}(hd:d≤3){P:Nat→Prop}{xs:List (List Nat)}{w:World}{ka:Option Addr}{n kc:Nat}{nv:Value}(h:RowsAt (GAt (D+1)) P 4 w (.slice ka n kc) (xs.map (fun x=>G.mk 2 d x [])))(hn0:0 < xs.length)(hx4:xs.length≤4096)(hx:∀x∈xs,0 < x.length∧x.length≤30000∧x.length % wd d=0):
  Calls Tryz.prog 85 #[.agg #[.int .i64 5,.int .i64 d,nv,.slice ka n kc]] w (RmPost (LnE d) 2 d xs w):=by
 obtain⟨b,o,cap,hab⟩:∃(b o cap:Nat),Value.slice ka n kc=.slice (some ⟨b,o,none⟩) (xs.map (fun x=>G.mk 2 d x [])).length cap:=by
  obtain⟨b,o,_,_,_,_,_,_,_,_,⟨cap,hab⟩,_⟩:=kid_at h (i:=0) (by rw[List.length_map];exact hn0)
  exact⟨b,o,cap,hab⟩
 injection hab with e1 e2 e3
 rw[List.length_map] at e2
 subst e1 e3
 have hn4:n≤4096:=by omega
 have hn1:0 < n:=by omega
 have HK:=zH h
 have HN:=zH e2
 have HX:=zH hx
 obtain⟨i0,hi0,hz0,hz1,hz2⟩:=info_parts info121
 have bb:=two_allocs w (.cells #[.int .i64 5,.int .i64 d,nv,.slice (some ⟨b,o,none⟩) n kc] 27) (.cells #[.slice none 0 0,.int .u8 0] 134)
 obtain⟨w0,hw0⟩:∃w0,w0=(w.alloc (.cells #[.int .i64 5,.int .i64 d,nv,.slice (some ⟨b,o,none⟩) n kc] 27)).alloc (.cells #[.slice none 0 0,.int .u8 0] 134):=⟨_,rfl⟩
 rw[←hw0] at bb
 have F0:Hid (ZF w w0):=by show Fr _ _ _;rw[hw0];exact ((Fr.refl _ w).alloc _).alloc _
 have S0:Hid (w0.heap.size=w.heap.size+2):=by show _=_;rw[hw0,sz1,sz1]
 have HB:=zH bb
 have HW0:=zH hw0
 obtain⟨p0,p1,p2,p3⟩:=bx_cells bb.1
 clear h e2 hx hx4 hn0 bb hw0
 go_enter Tryz.func85,Tryz.ntmps85
 go_upto_region 1 with fail
 rw[←HW0.out]
 go_upto_region 3 with fail
 clear p0 p1 p2 p3
 go_loopw [3,9] (fun cv iv wr=>∃(i:Nat) (va:Option Addr) (vc:Nat),cv=.slice va i vc∧iv=.int .i64 (i:Int)∧i≤n∧Hid (Fr (fun b=>w0.heap.size≤b) w0 wr∧OwnRows (LnE d) w0.heap.size 121 2 wr (.slice va i vc) (xs.take i))) (fun _ iv _=>n - (intOf iv).toNat)
 case atStart=>exact⟨0,none,0,rfl,rfl,Nat.zero_le _,Fr.refl _ _,OwnRows.nil⟩
 case round =>
  obtain⟨i,va,vc,rfl,rfl,hi,hrel⟩:=hrel
  have FR:Hid (ZF w wr):=F0.out.transNew hrel.out.1 (fun b e=>.inl (by have:=F0.out.size;omega))
  have HBX:=zH ((hrel.out.1.block w.heap.size (zG HB.out.1).1 (by have:=S0.out;omega)).trans HB.out.1)
  have HRS:=zH ((hrel.out.1.block (w.heap.size+1) (zG HB.out.2).1 (by have:=S0.out;omega)).trans HB.out.2)
  have OW:=zH hrel.out.2
  have FW:=zH hrel.out.1
  clear hrel
  by_cases hlt:i < n
  ·have hix:i < xs.length:=by rw[←HN.out];exact hlt
   obtain⟨b1,o1,k',dm',na',N',nc',ka',M',kc',⟨cap1,hab⟩,hb,_,hE,c0,c1,c2,c3⟩:=kid_at HK.out (i:=i) (by rw[List.length_map];exact hix)
   injection hab with hab hab2 hab3
   injection hab with hab
   injection hab with hab hab4 _
   clear hab2 hab3
   subst hab hab4
   obtain⟨x,hxx⟩:∃x,x=xs[i]:=⟨_,rfl⟩
   rw[List.getElem_map,←hxx] at hE
   have HXI:=zH (HX.out x (by rw[hxx];exact List.getElem_mem _))
   obtain⟨hk',hd',hN',hNS,hKS⟩:=gat_parts hE
   subst hk' hd'
   have HTK:Hid (xs.take (i+1)=xs.take i++[x]):=by show _=_;rw[List.take_succ_eq_append_getElem hix,hxx]
   have c0':=FR.out.cell c0 (fun h=>h)
   have c1':=FR.out.cell c1 (fun h=>h)
   have c2':=FR.out.cell c2 (fun h=>h)
   have c3':=FR.out.cell c3 (fun h=>h)
   obtain⟨wk,hwk⟩:∃wk,wk=wr.alloc (.cells #[.int .i64 2,.int .i64 d,.slice na' N' nc',.slice ka' M' kc'] 27):=⟨_,rfl⟩
   have fk:ZF wr wk:=by rw[hwk];exact (Fr.refl _ wr).alloc _
   have bk:wk.heap[wr.heap.size]?=some (.cells #[.int .i64 2,.int .i64 d,.slice na' N' nc',.slice ka' M' kc'] 27 (0,0)):=by rw[hwk];exact zN wr _
   have hlen:(xs.take i).length=i:=by rw[List.length_take];omega
   have CEL:Hid (Calls Tryz.prog 79 #[.agg #[.int .i64 2,.int .i64 d,.slice na' N' nc',.slice ka' M' kc']] wk (LmPost d x wk)):=by
    obtain⟨b9,o9,c9,e9⟩:=nums_slice hNS (HXI.out.1)
    rw[←hN'] at e9
    have h9:=CellsAt.kept hNS (fun b _ hl=>(FR.out.trans fk).block b hl (fun h=>h))
    rw[e9] at h9 ⊢
    exact line79 d hd h9 (by have:=HXI.out.1;omega) (by have:=HXI.out.2.1;omega) (by rw[hN'];exact HXI.out.2.2)
   have HNX:Hid (∀(w5:World) (cc:List Value),ZF wk w5→cc.length=2→LnE d (fun b=>wk.heap.size≤b) w5 cc x→∃cs,w5.ownsRow w0.heap.size 121 2 (.slice va i vc) i cs∧∀(o:Obj) (w7:World) (v':Value),w7.ownsRow w0.heap.size 121 2 v' (i+1) (cs++cc)→(w5.alloc o).grownBy w7 (Value.slice va i vc).ownBlock→(v'.ownBlock=(Value.slice va i vc).ownBlock∨v'.ownBlock=some (w5.alloc o).heap.size)→OwnRows (LnE d) w0.heap.size 121 2 w7 v' (xs.take i++[x])∧Fr (fun b=>w0.heap.size≤b) w5 w7):=fun w5 cc f hcc hee=>by
    have h1:=rows_next (LnE.kp d) OW.out (wc:=w5) (fun b _ hl=>(fk.trans f).block b hl (fun h=>h)) FW.out.size hcc ((LnE.kp d).mono (fun b hb _=>Nat.le_trans fk.size hb) hee)
    rw[hlen] at h1
    exact h1
   have BK:=zH bk
   have FK:=zH fk
   have HWK:=zH hwk
   have K3:Hid (i+1≤maxLen):=by show _≤_;unfold maxLen;omega
   have K4:Hid ((i+1)*32≤140737488355328):=by show _≤_;omega
   obtain⟨p0,p1,p2,p3⟩:=bx_cells ((fk.block _ (zG HBX.out).1 (fun h=>h)).trans HBX.out)
   clear hxx fk hE hwk bk hb c0 c1 c2 c3 hix hN' hNS hKS hlen
   go_upto_region 5 with fail
   rw[←HWK.out]
   clear c0' c1' c2' c3'
   obtain⟨e0,e1,e2,e3⟩:=bx_cells BK.out
   go_upto_region 7 with (first|(go_at_call 79;refine CEL.out.mono ?_;rintro e w5 ⟨g2,n2,rfl,hp⟩;have HP:=zH ((⟨hp.out.1,hp.out.2.2⟩:_∧_));clear hp;obtain⟨cs,hown,hnx⟩:=HNX.out w5 [.int .u8 d,.slice (some ⟨g2,0,none⟩) n2 n2] HP.out.1 rfl HP.out.2;have OWN:=zH hown;have NX:=zH hnx;clear hown hnx;have K5:Hid (w0.heap.size≤(w5.alloc (.cells [.int .u8 d,.slice (some ⟨g2,0,none⟩) n2 n2].toArray 121)).heap.size):=(by show _≤_;rw[sz1];have h1:=FW.out.size;have h2:=FK.out.size;have h3:=HP.out.1.size;omega))|(at_builtin;refine wpList_append_own_at _ rfl _ _ 124 rfl w0.heap.size 121 i0 (.agg #[.int .u8 0,.slice none 0 0]) 2 32 Tryz.underlying124 hi0 hz0 hz1 hz2 rfl (by decide) _ i cs rfl (OWN.out.alloc _) ⟨_,0,none⟩ 1 1 [.int .u8 d,.slice (some ⟨g2,0,none⟩) n2 n2] rfl rfl (cell2_new _ _ _ _) (all2 _ _ rfl rfl) K3.out K4.out K5.out ?_;intro v' w7 hown1 hgrow1 _ hat;obtain⟨g6,cap6,rfl,_,_⟩:=own_capE hown1 (Nat.succ_pos _);have HH:=zH (NX.out _ _ _ hown1 hgrow1 hat);clear hown1 hgrow1 hat))
   have HREL:Hid (Fr (fun b=>w0.heap.size≤b) w0 w7∧OwnRows (LnE d) w0.heap.size 121 2 w7 (.slice (some ⟨g6,0,none⟩) (i+1) cap6) (xs.take (i+1))):=by
    refine⟨((FW.out.trans (FK.out.weak (fun _ h=>h.elim))).trans (HP.out.1.weak (fun _ h=>h.elim))).trans HH.out.2,?_⟩
    rw[HTK.out]
    exact HH.out.1
   clear HH NX OWN K5 HP BK FK HWK HNX e0 e1 e2 e3 p0 p1 p2 p3 CEL HTK HXI
   go_wp2_with fail
   go_roundw
   case rel=>exact⟨i+1,_,_,rfl,by go_num,by omega,HREL.out⟩
   case measure=>simp[intOf];omega
  ·have hin:i=n:=by omega
   subst hin
   have hT:xs.take i=xs:=List.take_of_length_le (by rw[←HN.out];omega)
   have OD:=OW.out
   rw[hT] at OD
   obtain⟨cs,ho⟩:=OD.own
   have hl1:xs.length=i:=HN.out.symm
   rw[hl1] at ho
   obtain⟨g3,c3,hv,hg3,_⟩:=own_capE ho hn1
   injection hv with e1 _ e3
   subst e1 e3
   have HRW:RowsAt (LnE d) (fun b=>w0.heap.size≤b) 2 wr (.slice (some ⟨g3,0,none⟩) i vc) xs:=OD.done (LnE.kp d) (by decide)
   have CN:Hid (Calls Tryz.prog 167 #[.slice (some ⟨g3,0,none⟩) i vc] wr (NwPost (LnE d) 2 d (fun b=>w0.heap.size≤b) xs wr)):=by
    exact new167 hd (fun b hb=>Nat.le_trans FW.out.size hb) HRW hn1 hn4
   obtain⟨p0,p1,p2,p3⟩:=bx_cells HBX.out
   have hlr:w.heap.size+1 < wr.heap.size:=(zG HRS.out).1
   have HNN:=zH hn1
   clear hT OD ho hl1 HRW hn1
   have hne0:¬((i:Int)=0):=by have:=HNN.out;omega
   go_wp2_with (go_at_call 167;refine CN.out.mono ?_;rintro e w5 ⟨g7,n7,c7,rfl,hp⟩;have HP:=zH hp.out;clear hp;obtain⟨r0,r1,rf⟩:=lm_cells ((HP.out.1.block _ hlr (fun h=>h)).trans HRS.out))
   refine bodyPost_ret (v:=.agg #[.slice (some ⟨g7,0,none⟩) n7 c7,.int .u8 d]) (by simp[results,Tryz.f85,go_sem,r0,r1]) rfl ⟨_,_,_,rfl,?_⟩
   have f6:Fr (Eq (w.heap.size+1)) w5 ((w5.setCell ⟨w.heap.size+1,0,none⟩ (.slice (some ⟨g7,0,none⟩) n7 c7)).setCell ⟨w.heap.size+1,1,none⟩ (.int .u8 d)):=((Fr.refl _ w5).setR _).setR _
   have h0:=F0.out.size
   have hs0:=S0.out
   refine⟨(FR.out.trans HP.out.1).transNew f6 (fun b e=>.inl (by omega)),?_⟩
   exact (RwE.kp (LnE.kp d) (by decide) d).mono (fun b hb _=>Nat.le_trans h0 hb) ((RwE.kp (LnE.kp d) (by decide) d).kept (fun b hb hl=>f6.block b hl (by omega)) HP.out.2.2)
theorem geo87{D d:Nat}(hd:d≤3){P:Nat→Prop}{xs:List (List (List Nat))}{w:World}{ka:Option Addr}{n kc:Nat}{nv:Value}(h:RowsAt (GAt (D+2)) P 4 w (.slice ka n kc) (xs.map (fun x=>G.mk 3 d [] (x.map fun y=>G.mk 2 d y []))))(hn0:0 < xs.length)(hx4:xs.length≤4096)(hx:∀x∈xs,0 < x.length∧x.length≤4096∧∀y∈x,0 < y.length∧y.length≤30000∧y.length % wd d=0):
  Calls Tryz.prog 87 #[.agg #[.int .i64 6,.int .i64 d,nv,.slice ka n kc]] w (RmPost (RwE (LnE d) 2 d) 2 d xs w):=by
 obtain⟨b,o,cap,hab⟩:∃(b o cap:Nat),Value.slice ka n kc=.slice (some ⟨b,o,none⟩) (xs.map (fun x=>G.mk 3 d [] (x.map fun y=>G.mk 2 d y []))).length cap:=by
  obtain⟨b,o,_,_,_,_,_,_,_,_,⟨cap,hab⟩,_⟩:=kid_at h (i:=0) (by rw[List.length_map];exact hn0)
  exact⟨b,o,cap,hab⟩
 injection hab with e1 e2 e3
 rw[List.length_map] at e2
 subst e1 e3
 have hn4:n≤4096:=by omega
 have hn1:0 < n:=by omega
 have HK:=zH h
 have HN:=zH e2
 have HX:=zH hx
 obtain⟨i0,hi0,hz0,hz1,hz2⟩:=info_parts info126
 have bb:=two_allocs w (.cells #[.int .i64 6,.int .i64 d,nv,.slice (some ⟨b,o,none⟩) n kc] 27) (.cells #[.slice none 0 0,.int .u8 0] 139)
 obtain⟨w0,hw0⟩:∃w0,w0=(w.alloc (.cells #[.int .i64 6,.int .i64 d,nv,.slice (some ⟨b,o,none⟩) n kc] 27)).alloc (.cells #[.slice none 0 0,.int .u8 0] 139):=⟨_,rfl⟩
 rw[←hw0] at bb
 have F0:Hid (ZF w w0):=by show Fr _ _ _;rw[hw0];exact ((Fr.refl _ w).alloc _).alloc _
 have S0:Hid (w0.heap.size=w.heap.size+2):=by show _=_;rw[hw0,sz1,sz1]
 have HB:=zH bb
 have HW0:=zH hw0
 obtain⟨p0,p1,p2,p3⟩:=bx_cells bb.1
 clear h e2 hx hx4 hn0 bb hw0
 go_enter Tryz.func87,Tryz.ntmps87
 go_upto_region 1 with fail
 rw[←HW0.out]
 go_upto_region 3 with fail
 clear p0 p1 p2 p3
 go_loopw [3,9] (fun cv iv wr=>∃(i:Nat) (va:Option Addr) (vc:Nat),cv=.slice va i vc∧iv=.int .i64 (i:Int)∧i≤n∧Hid (Fr (fun b=>w0.heap.size≤b) w0 wr∧OwnRows (RwE (LnE d) 2 d) w0.heap.size 126 2 wr (.slice va i vc) (xs.take i))) (fun _ iv _=>n - (intOf iv).toNat)
 case atStart=>exact⟨0,none,0,rfl,rfl,Nat.zero_le _,Fr.refl _ _,OwnRows.nil⟩
 case round =>
  obtain⟨i,va,vc,rfl,rfl,hi,hrel⟩:=hrel
  have FR:Hid (ZF w wr):=F0.out.transNew hrel.out.1 (fun b e=>.inl (by have:=F0.out.size;omega))
  have HBX:=zH ((hrel.out.1.block w.heap.size (zG HB.out.1).1 (by have:=S0.out;omega)).trans HB.out.1)
  have HRS:=zH ((hrel.out.1.block (w.heap.size+1) (zG HB.out.2).1 (by have:=S0.out;omega)).trans HB.out.2)
  have OW:=zH hrel.out.2
  have FW:=zH hrel.out.1
  clear hrel
  by_cases hlt:i < n
  ·have hix:i < xs.length:=by rw[←HN.out];exact hlt
   obtain⟨b1,o1,k',dm',na',N',nc',ka',M',kc',⟨cap1,hab⟩,hb,_,hE,c0,c1,c2,c3⟩:=kid_at HK.out (i:=i) (by rw[List.length_map];exact hix)
   injection hab with hab hab2 hab3
   injection hab with hab
   injection hab with hab hab4 _
   clear hab2 hab3
   subst hab hab4
   obtain⟨x,hxx⟩:∃x,x=xs[i]:=⟨_,rfl⟩
   rw[List.getElem_map,←hxx] at hE
   have HXI:=zH (HX.out x (by rw[hxx];exact List.getElem_mem _))
   obtain⟨hk',hd',hN',hNS,hKS⟩:=gat_parts hE
   subst hk' hd'
   have HTK:Hid (xs.take (i+1)=xs.take i++[x]):=by show _=_;rw[List.take_succ_eq_append_getElem hix,hxx]
   have c0':=FR.out.cell c0 (fun h=>h)
   have c1':=FR.out.cell c1 (fun h=>h)
   have c2':=FR.out.cell c2 (fun h=>h)
   have c3':=FR.out.cell c3 (fun h=>h)
   obtain⟨wk,hwk⟩:∃wk,wk=wr.alloc (.cells #[.int .i64 3,.int .i64 d,.slice na' N' nc',.slice ka' M' kc'] 27):=⟨_,rfl⟩
   have fk:ZF wr wk:=by rw[hwk];exact (Fr.refl _ wr).alloc _
   have bk:wk.heap[wr.heap.size]?=some (.cells #[.int .i64 3,.int .i64 d,.slice na' N' nc',.slice ka' M' kc'] 27 (0,0)):=by rw[hwk];exact zN wr _
   have hlen:(xs.take i).length=i:=by rw[List.length_take];omega
   have CEL:Hid (Calls Tryz.prog 81 #[.agg #[.int .i64 3,.int .i64 d,.slice na' N' nc',.slice ka' M' kc']] wk (RmPost (LnE d) 2 d x wk)):=geo81 hd (hKS.kept (GAt.kp _) (fun b _ hl=>(FR.out.trans fk).block b hl (fun h=>h))) HXI.out.1 HXI.out.2.1 HXI.out.2.2
   have HNX:Hid (∀(w5:World) (cc:List Value),ZF wk w5→cc.length=2→RwE (LnE d) 2 d (fun b=>wk.heap.size≤b) w5 cc x→∃cs,w5.ownsRow w0.heap.size 126 2 (.slice va i vc) i cs∧∀(o:Obj) (w7:World) (v':Value),w7.ownsRow w0.heap.size 126 2 v' (i+1) (cs++cc)→(w5.alloc o).grownBy w7 (Value.slice va i vc).ownBlock→(v'.ownBlock=(Value.slice va i vc).ownBlock∨v'.ownBlock=some (w5.alloc o).heap.size)→OwnRows (RwE (LnE d) 2 d) w0.heap.size 126 2 w7 v' (xs.take i++[x])∧Fr (fun b=>w0.heap.size≤b) w5 w7):=fun w5 cc f hcc hee=>by
    have h1:=rows_next (RwE.kp (LnE.kp d) (by decide) d) OW.out (wc:=w5) (fun b _ hl=>(fk.trans f).block b hl (fun h=>h)) FW.out.size hcc ((RwE.kp (LnE.kp d) (by decide) d).mono (fun b hb _=>Nat.le_trans fk.size hb) hee)
    rw[hlen] at h1
    exact h1
   have BK:=zH bk
   have FK:=zH fk
   have HWK:=zH hwk
   have K3:Hid (i+1≤maxLen):=by show _≤_;unfold maxLen;omega
   have K4:Hid ((i+1)*32≤140737488355328):=by show _≤_;omega
   obtain⟨p0,p1,p2,p3⟩:=bx_cells ((fk.block _ (zG HBX.out).1 (fun h=>h)).trans HBX.out)
   clear hxx fk hE hwk bk hb c0 c1 c2 c3 hix hN' hNS hKS hlen
   go_upto_region 5 with fail
   rw[←HWK.out]
   clear c0' c1' c2' c3'
   obtain⟨e0,e1,e2,e3⟩:=bx_cells BK.out
   go_upto_region 7 with (first|(go_at_call 81;refine CEL.out.mono ?_;rintro e w5 ⟨g2,n2,c2,rfl,hp⟩;have HP:=zH (hp.out);clear hp;obtain⟨cs,hown,hnx⟩:=HNX.out w5 [.slice (some ⟨g2,0,none⟩) n2 c2,.int .u8 d] HP.out.1 rfl HP.out.2;have OWN:=zH hown;have NX:=zH hnx;clear hown hnx;have K5:Hid (w0.heap.size≤(w5.alloc (.cells [.slice (some ⟨g2,0,none⟩) n2 c2,.int .u8 d].toArray 126)).heap.size):=(by show _≤_;rw[sz1];have h1:=FW.out.size;have h2:=FK.out.size;have h3:=HP.out.1.size;omega))|(at_builtin;refine wpList_append_own_at _ rfl _ _ 137 rfl w0.heap.size 126 i0 (.agg #[.slice none 0 0,.int .u8 0]) 2 32 Tryz.underlying137 hi0 hz0 hz1 hz2 rfl (by decide) _ i cs rfl (OWN.out.alloc _) ⟨_,0,none⟩ 1 1 [.slice (some ⟨g2,0,none⟩) n2 c2,.int .u8 d] rfl rfl (cell2_new _ _ _ _) (all2 _ _ rfl rfl) K3.out K4.out K5.out ?_;intro v' w7 hown1 hgrow1 _ hat;obtain⟨g6,cap6,rfl,_,_⟩:=own_capE hown1 (Nat.succ_pos _);have HH:=zH (NX.out _ _ _ hown1 hgrow1 hat);clear hown1 hgrow1 hat))
   have HREL:Hid (Fr (fun b=>w0.heap.size≤b) w0 w7∧OwnRows (RwE (LnE d) 2 d) w0.heap.size 126 2 w7 (.slice (some ⟨g6,0,none⟩) (i+1) cap6) (xs.take (i+1))):=by
    refine⟨((FW.out.trans (FK.out.weak (fun _ h=>h.elim))).trans (HP.out.1.weak (fun _ h=>h.elim))).trans HH.out.2,?_⟩
    rw[HTK.out]
    exact HH.out.1
   clear HH NX OWN K5 HP BK FK HWK HNX e0 e1 e2 e3 p0 p1 p2 p3 CEL HTK HXI
   go_wp2_with fail
   go_roundw
   case rel=>exact⟨i+1,_,_,rfl,by go_num,by omega,HREL.out⟩
   case measure=>simp[intOf];omega
  ·have hin:i=n:=by omega
   subst hin
   have hT:xs.take i=xs:=List.take_of_length_le (by rw[←HN.out];omega)
   have OD:=OW.out
   rw[hT] at OD
   obtain⟨cs,ho⟩:=OD.own
   have hl1:xs.length=i:=HN.out.symm
   rw[hl1] at ho
   obtain⟨g3,c3,hv,hg3,_⟩:=own_capE ho hn1
   injection hv with e1 _ e3
   subst e1 e3
   have HRW:RowsAt (RwE (LnE d) 2 d) (fun b=>w0.heap.size≤b) 2 wr (.slice (some ⟨g3,0,none⟩) i vc) xs:=OD.done (RwE.kp (LnE.kp d) (by decide) d) (by decide)
   have CN:Hid (Calls Tryz.prog 169 #[.slice (some ⟨g3,0,none⟩) i vc] wr (NwPost (RwE (LnE d) 2 d) 2 d (fun b=>w0.heap.size≤b) xs wr)):=by
    exact new169 hd (fun b hb=>Nat.le_trans FW.out.size hb) HRW hn1 hn4
   obtain⟨p0,p1,p2,p3⟩:=bx_cells HBX.out
   have hlr:w.heap.size+1 < wr.heap.size:=(zG HRS.out).1
   have HNN:=zH hn1
   clear hT OD ho hl1 HRW hn1
   have hne0:¬((i:Int)=0):=by have:=HNN.out;omega
   go_wp2_with (go_at_call 169;refine CN.out.mono ?_;rintro e w5 ⟨g7,n7,c7,rfl,hp⟩;have HP:=zH hp.out;clear hp;obtain⟨r0,r1,rf⟩:=lm_cells ((HP.out.1.block _ hlr (fun h=>h)).trans HRS.out))
   refine bodyPost_ret (v:=.agg #[.slice (some ⟨g7,0,none⟩) n7 c7,.int .u8 d]) (by simp[results,Tryz.f87,go_sem,r0,r1]) rfl ⟨_,_,_,rfl,?_⟩
   have f6:Fr (Eq (w.heap.size+1)) w5 ((w5.setCell ⟨w.heap.size+1,0,none⟩ (.slice (some ⟨g7,0,none⟩) n7 c7)).setCell ⟨w.heap.size+1,1,none⟩ (.int .u8 d)):=((Fr.refl _ w5).setR _).setR _
   have h0:=F0.out.size
   have hs0:=S0.out
   refine⟨(FR.out.trans HP.out.1).transNew f6 (fun b e=>.inl (by omega)),?_⟩
   exact (RwE.kp (RwE.kp (LnE.kp d) (by decide) d) (by decide) d).mono (fun b hb _=>Nat.le_trans h0 hb) ((RwE.kp (RwE.kp (LnE.kp d) (by decide) d) (by decide) d).kept (fun b hb hl=>f6.block b hl (by omega)) HP.out.2.2)
end Go.Proofs.YtnjjgbcmjnfijaaGreatDoor
