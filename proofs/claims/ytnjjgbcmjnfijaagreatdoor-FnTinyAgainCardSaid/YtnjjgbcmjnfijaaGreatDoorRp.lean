/- The package's things as plain data: several points, lines, polygons. No condition. -/
import Derived.Test.YtnjjgbcmjnfijaaGreatDoorRo
namespace Go.Proofs.YtnjjgbcmjnfijaaGreatDoor
set_option maxRecDepth 100000
set_option maxHeartbeats 8000000
open Go.RowKit
theorem rw_at{d:Nat}{P:Nat→Prop}{w:World}{g o n c:Nat}{xs:List (List (List Nat))}(h:RowsAt (RwE (LnE d) 2 d) P 2 w (.slice (some ⟨g,o,none⟩) n c) xs){i:Nat}(hi:i < xs.length):
  ∃g2 o2 n2 c2:Nat,n2=xs[i].length∧0 < n2∧n2≤4096∧RowsAt (LnE d) P 2 w (.slice (some ⟨g2,o2,none⟩) n2 c2) xs[i]∧w.cell? ⟨g,o+i*2,none⟩=some (.slice (some ⟨g2,o2,none⟩) n2 c2)∧w.cell? ⟨g,o+i*2+1,none⟩=some (.int .u8 d):=by
 obtain⟨a,cap,e,_,hc⟩:=h.at
 obtain⟨b,o',cs,rfl,_,_,hE,hx⟩:=hc i hi
 injection e with e1 _ _
 injection e1 with e1
 injection e1 with e1 e2 _
 subst e1 e2
 obtain⟨g2,o2,n2,c2,rfl,h1,h2,h3,h4⟩:=hE
 exact⟨g2,o2,n2,c2,h1,h2,h3,h4,hx 0 _ rfl,hx 1 _ rfl⟩
theorem plain61{d:Nat}(hd:d≤3){P:Nat→Prop}{w:World}{g o n c:Nat}{xs:List (List Nat)}(h:RowsAt (PtE d) P 6 w (.slice (some ⟨g,o,none⟩) n c) xs)(hnx:n=xs.length)(hn4:n≤4096):
  Calls Tryz.prog 61 #[.agg #[.slice (some ⟨g,o,none⟩) n c,.int .u8 d]] w (TrPost 2 4 d (G.mk 4 d [] (xs.map (fun x=>G.mk 1 d x []))) w):=by
 have CTY:=zH ac139
 have CNT:=zH ac140
 obtain⟨i0,hi0,hz0,hz1,hz2⟩:=info_parts info27
 have hcv:IntKind.i64.wrap (d:Int)=d:=by simp[IntKind.wrap,IntKind.bits,IntKind.signed];omega
 have HD:=zH hd
 have HNX:=zH hnx
 have HR:=zH h
 clear h hnx
 go_enter Tryz.func61,Tryz.ntmps61
 go_upto_region 2 with (go_at_call 139;refine (CTY.out _ _ _ _ _ _).mono ?_;rintro e w1 ⟨rfl,rfl⟩)
 generalize hwA:(((w.alloc _).alloc _).alloc _).alloc _=wA
 have bA:=al_at1 w (.cells #[.slice (some ⟨g,o,none⟩) n c,.int .u8 d] 130) (.cells #[.int .i64 0,.int .i64 0,.slice none 0 0,.slice none 0 0] 27) (.cells #[.slice (some ⟨g,o,none⟩) n c,.int .u8 d] 130) (.cells #[.int .i64 4,.int .i64 d,.slice none 0 0,.slice none 0 0] 27)
 rw[hwA] at bA
 obtain⟨bA0,bA1,bA3⟩:=bA
 have KA:Hid (KcAt w 130 #[.slice (some ⟨g,o,none⟩) n c,.int .u8 d] 1 4 d (w.heap.size+4) 0 (.slice none 0 0) [] wA):=⟨by rw[←hwA];exact ((((Fr.refl _ w).alloc _).alloc _).alloc _).alloc _,bA0,bA1,bA3,OwnRows.nil,rfl,⟨Nat.le_refl _,(zG bA3).1⟩⟩
 clear bA0 bA1 bA3 hwA
 go_wp2_with fail
 go_loopw [4] (fun iv wr=>∃(i:Nat) (va:Option Addr) (vc:Nat),iv=.int .i64 (i:Int)∧i≤n∧Hid (KcAt w 130 #[.slice (some ⟨g,o,none⟩) n c,.int .u8 d] 1 4 d (w.heap.size+4) i (.slice va i vc) ((xs.take i).map (fun x=>G.mk 1 d x [])) wr)) (fun iv _=>n - (intOf iv).toNat)
 case atStart=>exact⟨0,none,0,rfl,Nat.zero_le _,KA.out⟩
 case round =>
  obtain⟨i,va,vc,rfl,hi,hrel⟩:=hrel
  have q0:wr.cell? ⟨w.heap.size,0,none⟩=some (.slice (some ⟨g,o,none⟩) n c):=by rw[zC hrel.out.box];rfl
  have q1:wr.cell? ⟨w.heap.size,1,none⟩=some (.int .u8 d):=by rw[zC hrel.out.box];rfl
  go_upto_if 12 with (go_at_call 140;refine (CNT.out _ _ _ _ _ _).mono ?_;rintro e w1 ⟨rfl,hw1⟩;have HW1:=zH hw1;clear hw1)
  have K1:Hid (KcAt w 130 #[.slice (some ⟨g,o,none⟩) n c,.int .u8 d] 1 4 d (w.heap.size+4) i (.slice va i vc) ((xs.take i).map (fun x=>G.mk 1 d x [])) w1):=hrel.out.run (by rw[HW1.out];exact (Fr.refl _ wr).alloc _)
  clear q0 q1 hrel HW1 KA
  by_cases hlt:i < n
  ·have hix:i < xs.length:=by rw[←HNX.out];exact hlt
   obtain⟨x1,y1,z1,m1,hE,e0,e1,e2,e3,e4,e5⟩:=pt_at HR.out hix
   obtain⟨x,hx⟩:∃x,x=xs[i]:=⟨_,rfl⟩
   rw[←hx] at hE
   have HX:Hid ((xs.take (i+1)).map (fun x=>G.mk 1 d x [])=(xs.take i).map (fun x=>G.mk 1 d x [])++[((fun x=>G.mk 1 d x [])) x]):=by show _=_;rw[List.take_succ_eq_append_getElem hix,List.map_append,hx];rfl
   have CA:Hid (Calls Tryz.prog 141 #[.agg #[.slice (some ⟨g,o,none⟩) n c,.int .u8 d],.int .i64 i] w1.drew fun e w'=>e=.returned (.agg #[.float .f64 x1,.float .f64 y1,.float .f64 z1,.float .f64 m1,.int .u8 d,.bool true])∧ZF w1.drew w'):=by
    have f:=K1.out.fr.drew
    exact (ac141 d g o n c i x1 y1 z1 m1 d true w1.drew hlt (f.cell e0 (fun h=>h)) (f.cell e1 (fun h=>h)) (f.cell e2 (fun h=>h)) (f.cell e3 (fun h=>h)) (f.cell e4 (fun h=>h)) (f.cell e5 (fun h=>h))).mono (fun e w' h=>⟨h.1,by rw[h.2];exact ((Fr.refl _ _).alloc _).alloc _⟩)
   have CP:Hid (∀w4,ZF w1.drew w4→Calls Tryz.prog 55 #[(.agg #[.float .f64 x1,.float .f64 y1,.float .f64 z1,.float .f64 m1,.int .u8 d,.bool true])] w4 (TrPost 1 1 d (((fun x=>G.mk 1 d x [])) x) w4)):=fun w4 f4=>by
    rw[hE]
    exact plain55 x1 y1 z1 m1 d HD.out w4
   have NX2:Hid (∀(w5:World) (x0 x1 x2 x3:Value),ZF w1.drew w5→GAt 1 (fun b=>w1.heap.size≤b) w5 [x0,x1,x2,x3] (((fun x=>G.mk 1 d x [])) x)→_):=fun w5 x0 x1 x2 x3 f gg=>K1.out.next (w5:=w5) (((Fr.refl _ w1).drew).trans f) (c0:=x0) (c1:=x1) (c2:=x2) (c3:=x3) (x:=((fun x=>G.mk 1 d x [])) x) gg
   have HMS:Hid (w.heap.size+4≤w1.heap.size):=K1.out.sz
   have K3:=zH (k4a (i:=i) (by omega)).1
   have K4:=zH (k4a (i:=i) (by omega)).2
   have b0:w1.cell? ⟨w.heap.size,0,none⟩=some (.slice (some ⟨g,o,none⟩) n c):=by rw[zC K1.out.box];rfl
   have b1:w1.cell? ⟨w.heap.size,1,none⟩=some (.int .u8 d):=by rw[zC K1.out.box];rfl
   obtain⟨o0,o1,o2',o3,of⟩:=g_cells (b:=w.heap.size+1+1+1) K1.out.o
   have OK:=zH K1.out.o
   clear hx hix K1
   go_wp2_with fail
   go_region_law (first|(go_simp;go_at_call 141;(with_reducible refine CA.out.mono ?_);rintro e w4 ⟨rfl,f4⟩;have F4:=zH f4;clear f4;obtain⟨o0,o1,o2',o3,of⟩:=g_cells (b:=w.heap.size+1+1+1) ((F4.out.block _ (zG OK.out).1 (fun h=>h)).trans OK.out))|(go_simp;go_at_call 55;(with_reducible refine (CP.out _ F4.out).mono ?_);rintro e w5 ⟨ra,rn,rc,sa,sn,sc,rfl,hp⟩;obtain⟨cs,hown,hnx⟩:=NX2.out _ _ _ _ _ (F4.out.trans hp.out.1) ((GAt.kp 1).mono (fun b hb _=>Nat.le_trans F4.out.size hb) hp.out.2);have OWN:=zH hown;have NX:=zH hnx;clear hown hnx;have F5:=zH (F4.out.trans hp.out.1);clear hp;obtain⟨o0,o1,o2',o3,of⟩:=g_cells (b:=w.heap.size+1+1+1) ((F5.out.block _ (zG OK.out).1 (fun h=>h)).trans OK.out);have o3n:∀ob:Obj,(w5.alloc ob).cell? ⟨w.heap.size+1+1+1,3,none⟩=some (.slice va i vc):=fun ob=>(World.cell?_of_block (Below.heap_alloc w5 ob _ (World.block_lt_of_cell? w5 _ o3))).trans o3)|(refine step_append_lies _ (by rfl) _ _ _ (by rfl) (w.heap.size+4) 27 i0 (.agg #[.int .i64 0,.int .i64 0,.slice none 0 0,.slice none 0 0]) 4 64 Tryz.underlying25 hi0 hz0 hz1 hz2 rfl (by decide) _ i cs (by rfl) (OWN.out.alloc _) ⟨_,0,none⟩ 1 1 [.int .i64 1,.int .i64 d,.slice ra rn rc,.slice sa sn sc] (by rfl) rfl (cell4_new _ _ _ _ _ _) (four_one _ _ _ _ _ _ _ _) (by omega) K3.out K4.out (by have h1:=F5.out.size;have h2:w1.drew.heap.size=w1.heap.size:=rfl;have h3:=HMS.out;show _≤(w5.heap.push _).size;rw[Array.size_push];omega) _ rfl ?_;intro g6 cap6 w7 hown hgrow hat hlt7;have HH:=zH (NX.out _ _ _ hown hgrow (hat.imp (fun h=>h.symm) (fun h=>congrArg some h)));clear hown hgrow hat;obtain⟨o0,o1,o2',o3,of⟩:=g_cells (b:=w.heap.size+1+1+1) HH.out.1))
   all_goals
    have HREL:Hid (KcAt w 130 #[.slice (some ⟨g,o,none⟩) n c,.int .u8 d] 1 4 d (w.heap.size+4) (i+1) (.slice (some ⟨g6,0,none⟩) (i+1) cap6) ((xs.take (i+1)).map (fun x=>G.mk 1 d x [])) (w7.setCell ⟨w.heap.size+1+1+1,3,none⟩ (.slice (some ⟨g6,0,none⟩) (i+1) cap6))):=by
     show KcAt _ _ _ _ _ _ _ _ _ _ _
     rw[HX.out]
     exact HH.out.2.2.2
    clear HH NX OWN F5 OK NX2 o0 o1 o2' o3 of CA CP HX
    go_wp2_with fail
    go_roundw
    case rel=>exact⟨i+1,_,_,by go_num,by omega,HREL.out⟩
    case measure=>simp[intOf];omega
  ·have hin:i=n:=by omega
   subst hin
   obtain⟨p0,p1,p2,p3,pf⟩:=g_cells (b:=w.heap.size+1+1+1) K1.out.o
   obtain⟨r0,r1,r2,r3,rf⟩:=g_cells (b:=w.heap.size+1) K1.out.res
   have HF:=zH (K1.out.post (k:=4) (by decide) HD.out hn4 (fr4 w1 (w.heap.size+1) (.int .i64 4) (.int .i64 d) (.slice none 0 0) (.slice va i vc)))
   rw[List.take_of_length_le (by rw[←HNX.out];omega)] at HF
   clear K1
   go_wp2_with fail
   exact bodyPost_ret (v:=.agg #[.int .i64 4,.int .i64 d,.slice none 0 0,.slice va i vc]) (by simp[results,Tryz.f61,go_sem,r0,r1,r2,r3]) rfl HF.out
theorem plain63{d:Nat}(hd:d≤3){P:Nat→Prop}{w:World}{g o n c:Nat}{xs:List (List Nat)}(h:RowsAt (LnE d) P 2 w (.slice (some ⟨g,o,none⟩) n c) xs)(hnx:n=xs.length)(hn4:n≤4096):
  Calls Tryz.prog 63 #[.agg #[.slice (some ⟨g,o,none⟩) n c,.int .u8 d]] w (TrPost 2 5 d (G.mk 5 d [] (xs.map (fun x=>G.mk 2 d x []))) w):=by
 have CTY:=zH ac142
 have CNT:=zH ac143
 obtain⟨i0,hi0,hz0,hz1,hz2⟩:=info_parts info27
 have hcv:IntKind.i64.wrap (d:Int)=d:=by simp[IntKind.wrap,IntKind.bits,IntKind.signed];omega
 have HD:=zH hd
 have HNX:=zH hnx
 have HR:=zH h
 clear h hnx
 go_enter Tryz.func63,Tryz.ntmps63
 go_upto_region 2 with (go_at_call 142;refine (CTY.out _ _ _ _ _ _).mono ?_;rintro e w1 ⟨rfl,rfl⟩)
 generalize hwA:(((w.alloc _).alloc _).alloc _).alloc _=wA
 have bA:=al_at1 w (.cells #[.slice (some ⟨g,o,none⟩) n c,.int .u8 d] 134) (.cells #[.int .i64 0,.int .i64 0,.slice none 0 0,.slice none 0 0] 27) (.cells #[.slice (some ⟨g,o,none⟩) n c,.int .u8 d] 134) (.cells #[.int .i64 5,.int .i64 d,.slice none 0 0,.slice none 0 0] 27)
 rw[hwA] at bA
 obtain⟨bA0,bA1,bA3⟩:=bA
 have KA:Hid (KcAt w 134 #[.slice (some ⟨g,o,none⟩) n c,.int .u8 d] 1 5 d (w.heap.size+4) 0 (.slice none 0 0) [] wA):=⟨by rw[←hwA];exact ((((Fr.refl _ w).alloc _).alloc _).alloc _).alloc _,bA0,bA1,bA3,OwnRows.nil,rfl,⟨Nat.le_refl _,(zG bA3).1⟩⟩
 clear bA0 bA1 bA3 hwA
 go_wp2_with fail
 go_loopw [4] (fun iv wr=>∃(i:Nat) (va:Option Addr) (vc:Nat),iv=.int .i64 (i:Int)∧i≤n∧Hid (KcAt w 134 #[.slice (some ⟨g,o,none⟩) n c,.int .u8 d] 1 5 d (w.heap.size+4) i (.slice va i vc) ((xs.take i).map (fun x=>G.mk 2 d x [])) wr)) (fun iv _=>n - (intOf iv).toNat)
 case atStart=>exact⟨0,none,0,rfl,Nat.zero_le _,KA.out⟩
 case round =>
  obtain⟨i,va,vc,rfl,hi,hrel⟩:=hrel
  have q0:wr.cell? ⟨w.heap.size,0,none⟩=some (.slice (some ⟨g,o,none⟩) n c):=by rw[zC hrel.out.box];rfl
  have q1:wr.cell? ⟨w.heap.size,1,none⟩=some (.int .u8 d):=by rw[zC hrel.out.box];rfl
  go_upto_if 12 with (go_at_call 143;refine (CNT.out _ _ _ _ _ _).mono ?_;rintro e w1 ⟨rfl,hw1⟩;have HW1:=zH hw1;clear hw1)
  have K1:Hid (KcAt w 134 #[.slice (some ⟨g,o,none⟩) n c,.int .u8 d] 1 5 d (w.heap.size+4) i (.slice va i vc) ((xs.take i).map (fun x=>G.mk 2 d x [])) w1):=hrel.out.run (by rw[HW1.out];exact (Fr.refl _ wr).alloc _)
  clear q0 q1 hrel HW1 KA
  by_cases hlt:i < n
  ·have hix:i < xs.length:=by rw[←HNX.out];exact hlt
   obtain⟨g2,o2,n2,c2,hE,e0,e1⟩:=ln_at HR.out hix
   obtain⟨x,hx⟩:∃x,x=xs[i]:=⟨_,rfl⟩
   rw[←hx] at hE
   have HX:Hid ((xs.take (i+1)).map (fun x=>G.mk 2 d x [])=(xs.take i).map (fun x=>G.mk 2 d x [])++[((fun x=>G.mk 2 d x [])) x]):=by show _=_;rw[List.take_succ_eq_append_getElem hix,List.map_append,hx];rfl
   have CA:Hid (Calls Tryz.prog 144 #[.agg #[.slice (some ⟨g,o,none⟩) n c,.int .u8 d],.int .i64 i] w1.drew fun e w'=>e=.returned (.agg #[.int .u8 d,.slice (some ⟨g2,o2,none⟩) n2 c2])∧ZF w1.drew w'):=by
    have f:=K1.out.fr.drew
    exact (ac144 d g o n c i d g2 o2 n2 c2 w1.drew hlt (f.cell e0 (fun h=>h)) (f.cell e1 (fun h=>h))).mono (fun e w' h=>⟨h.1,by rw[h.2];exact ((Fr.refl _ _).alloc _).alloc _⟩)
   have CP:Hid (∀w4,ZF w1.drew w4→Calls Tryz.prog 57 #[(.agg #[.int .u8 d,.slice (some ⟨g2,o2,none⟩) n2 c2])] w4 (TrPost 1 2 d (((fun x=>G.mk 2 d x [])) x) w4)):=fun w4 f4=>by
    obtain⟨ga,oa,na,ca,e,e1,_,_,e2,e3,_,e4⟩:=hE
    simp only[List.cons.injEq,Value.slice.injEq,Option.some.injEq,Addr.mk.injEq,and_true,true_and] at e
    obtain⟨⟨rfl,rfl⟩,rfl,rfl⟩:=e
    exact plain57 d HD.out g2 o2 n2 c2 x w4 e1 e3 e2 (fun j u hu=>(K1.out.fr.drew.trans f4).cell (e4 j u hu) (fun h=>h))
   have NX2:Hid (∀(w5:World) (x0 x1 x2 x3:Value),ZF w1.drew w5→GAt 1 (fun b=>w1.heap.size≤b) w5 [x0,x1,x2,x3] (((fun x=>G.mk 2 d x [])) x)→_):=fun w5 x0 x1 x2 x3 f gg=>K1.out.next (w5:=w5) (((Fr.refl _ w1).drew).trans f) (c0:=x0) (c1:=x1) (c2:=x2) (c3:=x3) (x:=((fun x=>G.mk 2 d x [])) x) gg
   have HMS:Hid (w.heap.size+4≤w1.heap.size):=K1.out.sz
   have K3:=zH (k4a (i:=i) (by omega)).1
   have K4:=zH (k4a (i:=i) (by omega)).2
   have b0:w1.cell? ⟨w.heap.size,0,none⟩=some (.slice (some ⟨g,o,none⟩) n c):=by rw[zC K1.out.box];rfl
   have b1:w1.cell? ⟨w.heap.size,1,none⟩=some (.int .u8 d):=by rw[zC K1.out.box];rfl
   obtain⟨o0,o1,o2',o3,of⟩:=g_cells (b:=w.heap.size+1+1+1) K1.out.o
   have OK:=zH K1.out.o
   clear hx hix K1
   go_wp2_with fail
   go_region_law (first|(go_simp;go_at_call 144;(with_reducible refine CA.out.mono ?_);rintro e w4 ⟨rfl,f4⟩;have F4:=zH f4;clear f4;obtain⟨o0,o1,o2',o3,of⟩:=g_cells (b:=w.heap.size+1+1+1) ((F4.out.block _ (zG OK.out).1 (fun h=>h)).trans OK.out))|(go_simp;go_at_call 57;(with_reducible refine (CP.out _ F4.out).mono ?_);rintro e w5 ⟨ra,rn,rc,sa,sn,sc,rfl,hp⟩;obtain⟨cs,hown,hnx⟩:=NX2.out _ _ _ _ _ (F4.out.trans hp.out.1) ((GAt.kp 1).mono (fun b hb _=>Nat.le_trans F4.out.size hb) hp.out.2);have OWN:=zH hown;have NX:=zH hnx;clear hown hnx;have F5:=zH (F4.out.trans hp.out.1);clear hp;obtain⟨o0,o1,o2',o3,of⟩:=g_cells (b:=w.heap.size+1+1+1) ((F5.out.block _ (zG OK.out).1 (fun h=>h)).trans OK.out);have o3n:∀ob:Obj,(w5.alloc ob).cell? ⟨w.heap.size+1+1+1,3,none⟩=some (.slice va i vc):=fun ob=>(World.cell?_of_block (Below.heap_alloc w5 ob _ (World.block_lt_of_cell? w5 _ o3))).trans o3)|(refine step_append_lies _ (by rfl) _ _ _ (by rfl) (w.heap.size+4) 27 i0 (.agg #[.int .i64 0,.int .i64 0,.slice none 0 0,.slice none 0 0]) 4 64 Tryz.underlying25 hi0 hz0 hz1 hz2 rfl (by decide) _ i cs (by rfl) (OWN.out.alloc _) ⟨_,0,none⟩ 1 1 [.int .i64 2,.int .i64 d,.slice ra rn rc,.slice sa sn sc] (by rfl) rfl (cell4_new _ _ _ _ _ _) (four_one _ _ _ _ _ _ _ _) (by omega) K3.out K4.out (by have h1:=F5.out.size;have h2:w1.drew.heap.size=w1.heap.size:=rfl;have h3:=HMS.out;show _≤(w5.heap.push _).size;rw[Array.size_push];omega) _ rfl ?_;intro g6 cap6 w7 hown hgrow hat hlt7;have HH:=zH (NX.out _ _ _ hown hgrow (hat.imp (fun h=>h.symm) (fun h=>congrArg some h)));clear hown hgrow hat;obtain⟨o0,o1,o2',o3,of⟩:=g_cells (b:=w.heap.size+1+1+1) HH.out.1))
   all_goals
    have HREL:Hid (KcAt w 134 #[.slice (some ⟨g,o,none⟩) n c,.int .u8 d] 1 5 d (w.heap.size+4) (i+1) (.slice (some ⟨g6,0,none⟩) (i+1) cap6) ((xs.take (i+1)).map (fun x=>G.mk 2 d x [])) (w7.setCell ⟨w.heap.size+1+1+1,3,none⟩ (.slice (some ⟨g6,0,none⟩) (i+1) cap6))):=by
     show KcAt _ _ _ _ _ _ _ _ _ _ _
     rw[HX.out]
     exact HH.out.2.2.2
    clear HH NX OWN F5 OK NX2 o0 o1 o2' o3 of CA CP HX
    go_wp2_with fail
    go_roundw
    case rel=>exact⟨i+1,_,_,by go_num,by omega,HREL.out⟩
    case measure=>simp[intOf];omega
  ·have hin:i=n:=by omega
   subst hin
   obtain⟨p0,p1,p2,p3,pf⟩:=g_cells (b:=w.heap.size+1+1+1) K1.out.o
   obtain⟨r0,r1,r2,r3,rf⟩:=g_cells (b:=w.heap.size+1) K1.out.res
   have HF:=zH (K1.out.post (k:=5) (by decide) HD.out hn4 (fr4 w1 (w.heap.size+1) (.int .i64 5) (.int .i64 d) (.slice none 0 0) (.slice va i vc)))
   rw[List.take_of_length_le (by rw[←HNX.out];omega)] at HF
   clear K1
   go_wp2_with fail
   exact bodyPost_ret (v:=.agg #[.int .i64 5,.int .i64 d,.slice none 0 0,.slice va i vc]) (by simp[results,Tryz.f63,go_sem,r0,r1,r2,r3]) rfl HF.out
theorem plain65{d:Nat}(hd:d≤3){P:Nat→Prop}{w:World}{g o n c:Nat}{xs:List (List (List Nat))}(h:RowsAt (RwE (LnE d) 2 d) P 2 w (.slice (some ⟨g,o,none⟩) n c) xs)(hnx:n=xs.length)(hn4:n≤4096):
  Calls Tryz.prog 65 #[.agg #[.slice (some ⟨g,o,none⟩) n c,.int .u8 d]] w (TrPost 3 6 d (G.mk 6 d [] (xs.map (fun x=>G.mk 3 d [] (x.map fun y=>G.mk 2 d y [])))) w):=by
 have CTY:=zH ac145
 have CNT:=zH ac146
 obtain⟨i0,hi0,hz0,hz1,hz2⟩:=info_parts info27
 have hcv:IntKind.i64.wrap (d:Int)=d:=by simp[IntKind.wrap,IntKind.bits,IntKind.signed];omega
 have HD:=zH hd
 have HNX:=zH hnx
 have HR:=zH h
 clear h hnx
 go_enter Tryz.func65,Tryz.ntmps65
 go_upto_region 2 with (go_at_call 145;refine (CTY.out _ _ _ _ _ _).mono ?_;rintro e w1 ⟨rfl,rfl⟩)
 generalize hwA:(((w.alloc _).alloc _).alloc _).alloc _=wA
 have bA:=al_at1 w (.cells #[.slice (some ⟨g,o,none⟩) n c,.int .u8 d] 139) (.cells #[.int .i64 0,.int .i64 0,.slice none 0 0,.slice none 0 0] 27) (.cells #[.slice (some ⟨g,o,none⟩) n c,.int .u8 d] 139) (.cells #[.int .i64 6,.int .i64 d,.slice none 0 0,.slice none 0 0] 27)
 rw[hwA] at bA
 obtain⟨bA0,bA1,bA3⟩:=bA
 have KA:Hid (KcAt w 139 #[.slice (some ⟨g,o,none⟩) n c,.int .u8 d] 2 6 d (w.heap.size+4) 0 (.slice none 0 0) [] wA):=⟨by rw[←hwA];exact ((((Fr.refl _ w).alloc _).alloc _).alloc _).alloc _,bA0,bA1,bA3,OwnRows.nil,rfl,⟨Nat.le_refl _,(zG bA3).1⟩⟩
 clear bA0 bA1 bA3 hwA
 go_wp2_with fail
 go_loopw [4] (fun iv wr=>∃(i:Nat) (va:Option Addr) (vc:Nat),iv=.int .i64 (i:Int)∧i≤n∧Hid (KcAt w 139 #[.slice (some ⟨g,o,none⟩) n c,.int .u8 d] 2 6 d (w.heap.size+4) i (.slice va i vc) ((xs.take i).map (fun x=>G.mk 3 d [] (x.map fun y=>G.mk 2 d y []))) wr)) (fun iv _=>n - (intOf iv).toNat)
 case atStart=>exact⟨0,none,0,rfl,Nat.zero_le _,KA.out⟩
 case round =>
  obtain⟨i,va,vc,rfl,hi,hrel⟩:=hrel
  have q0:wr.cell? ⟨w.heap.size,0,none⟩=some (.slice (some ⟨g,o,none⟩) n c):=by rw[zC hrel.out.box];rfl
  have q1:wr.cell? ⟨w.heap.size,1,none⟩=some (.int .u8 d):=by rw[zC hrel.out.box];rfl
  go_upto_if 12 with (go_at_call 146;refine (CNT.out _ _ _ _ _ _).mono ?_;rintro e w1 ⟨rfl,hw1⟩;have HW1:=zH hw1;clear hw1)
  have K1:Hid (KcAt w 139 #[.slice (some ⟨g,o,none⟩) n c,.int .u8 d] 2 6 d (w.heap.size+4) i (.slice va i vc) ((xs.take i).map (fun x=>G.mk 3 d [] (x.map fun y=>G.mk 2 d y []))) w1):=hrel.out.run (by rw[HW1.out];exact (Fr.refl _ wr).alloc _)
  clear q0 q1 hrel HW1 KA
  by_cases hlt:i < n
  ·have hix:i < xs.length:=by rw[←HNX.out];exact hlt
   obtain⟨g2,o2,n2,c2,e7,e8,e9,hE,e0,e1⟩:=rw_at HR.out hix
   obtain⟨x,hx⟩:∃x,x=xs[i]:=⟨_,rfl⟩
   rw[←hx] at hE e7
   have E7:=zH e7
   clear e7 e8
   have HX:Hid ((xs.take (i+1)).map (fun x=>G.mk 3 d [] (x.map fun y=>G.mk 2 d y []))=(xs.take i).map (fun x=>G.mk 3 d [] (x.map fun y=>G.mk 2 d y []))++[((fun x=>G.mk 3 d [] (x.map fun y=>G.mk 2 d y []))) x]):=by show _=_;rw[List.take_succ_eq_append_getElem hix,List.map_append,hx];rfl
   have CA:Hid (Calls Tryz.prog 147 #[.agg #[.slice (some ⟨g,o,none⟩) n c,.int .u8 d],.int .i64 i] w1.drew fun e w'=>e=.returned (.agg #[.slice (some ⟨g2,o2,none⟩) n2 c2,.int .u8 d])∧ZF w1.drew w'):=by
    have f:=K1.out.fr.drew
    exact (ac147 d g o n c i d g2 o2 n2 c2 w1.drew hlt (f.cell e0 (fun h=>h)) (f.cell e1 (fun h=>h))).mono (fun e w' h=>⟨h.1,by rw[h.2];exact ((Fr.refl _ _).alloc _).alloc _⟩)
   have CP:Hid (∀w4,ZF w1.drew w4→Calls Tryz.prog 59 #[(.agg #[.slice (some ⟨g2,o2,none⟩) n2 c2,.int .u8 d])] w4 (TrPost 2 3 d (((fun x=>G.mk 3 d [] (x.map fun y=>G.mk 2 d y []))) x) w4)):=fun w4 f4=>by
    exact plain59 HD.out (hE.kept (LnE.kp d) (fun b _ hl=>(K1.out.fr.drew.trans f4).block b hl (fun h=>h))) E7.out e9
   have NX2:Hid (∀(w5:World) (x0 x1 x2 x3:Value),ZF w1.drew w5→GAt 2 (fun b=>w1.heap.size≤b) w5 [x0,x1,x2,x3] (((fun x=>G.mk 3 d [] (x.map fun y=>G.mk 2 d y []))) x)→_):=fun w5 x0 x1 x2 x3 f gg=>K1.out.next (w5:=w5) (((Fr.refl _ w1).drew).trans f) (c0:=x0) (c1:=x1) (c2:=x2) (c3:=x3) (x:=((fun x=>G.mk 3 d [] (x.map fun y=>G.mk 2 d y []))) x) gg
   have HMS:Hid (w.heap.size+4≤w1.heap.size):=K1.out.sz
   have K3:=zH (k4a (i:=i) (by omega)).1
   have K4:=zH (k4a (i:=i) (by omega)).2
   have b0:w1.cell? ⟨w.heap.size,0,none⟩=some (.slice (some ⟨g,o,none⟩) n c):=by rw[zC K1.out.box];rfl
   have b1:w1.cell? ⟨w.heap.size,1,none⟩=some (.int .u8 d):=by rw[zC K1.out.box];rfl
   obtain⟨o0,o1,o2',o3,of⟩:=g_cells (b:=w.heap.size+1+1+1) K1.out.o
   have OK:=zH K1.out.o
   clear hx hix K1
   go_wp2_with fail
   go_region_law (first|(go_simp;go_at_call 147;(with_reducible refine CA.out.mono ?_);rintro e w4 ⟨rfl,f4⟩;have F4:=zH f4;clear f4;obtain⟨o0,o1,o2',o3,of⟩:=g_cells (b:=w.heap.size+1+1+1) ((F4.out.block _ (zG OK.out).1 (fun h=>h)).trans OK.out))|(go_simp;go_at_call 59;(with_reducible refine (CP.out _ F4.out).mono ?_);rintro e w5 ⟨ra,rn,rc,sa,sn,sc,rfl,hp⟩;obtain⟨cs,hown,hnx⟩:=NX2.out _ _ _ _ _ (F4.out.trans hp.out.1) ((GAt.kp 2).mono (fun b hb _=>Nat.le_trans F4.out.size hb) hp.out.2);have OWN:=zH hown;have NX:=zH hnx;clear hown hnx;have F5:=zH (F4.out.trans hp.out.1);clear hp;obtain⟨o0,o1,o2',o3,of⟩:=g_cells (b:=w.heap.size+1+1+1) ((F5.out.block _ (zG OK.out).1 (fun h=>h)).trans OK.out);have o3n:∀ob:Obj,(w5.alloc ob).cell? ⟨w.heap.size+1+1+1,3,none⟩=some (.slice va i vc):=fun ob=>(World.cell?_of_block (Below.heap_alloc w5 ob _ (World.block_lt_of_cell? w5 _ o3))).trans o3)|(refine step_append_lies _ (by rfl) _ _ _ (by rfl) (w.heap.size+4) 27 i0 (.agg #[.int .i64 0,.int .i64 0,.slice none 0 0,.slice none 0 0]) 4 64 Tryz.underlying25 hi0 hz0 hz1 hz2 rfl (by decide) _ i cs (by rfl) (OWN.out.alloc _) ⟨_,0,none⟩ 1 1 [.int .i64 3,.int .i64 d,.slice ra rn rc,.slice sa sn sc] (by rfl) rfl (cell4_new _ _ _ _ _ _) (four_one _ _ _ _ _ _ _ _) (by omega) K3.out K4.out (by have h1:=F5.out.size;have h2:w1.drew.heap.size=w1.heap.size:=rfl;have h3:=HMS.out;show _≤(w5.heap.push _).size;rw[Array.size_push];omega) _ rfl ?_;intro g6 cap6 w7 hown hgrow hat hlt7;have HH:=zH (NX.out _ _ _ hown hgrow (hat.imp (fun h=>h.symm) (fun h=>congrArg some h)));clear hown hgrow hat;obtain⟨o0,o1,o2',o3,of⟩:=g_cells (b:=w.heap.size+1+1+1) HH.out.1))
   all_goals
    have HREL:Hid (KcAt w 139 #[.slice (some ⟨g,o,none⟩) n c,.int .u8 d] 2 6 d (w.heap.size+4) (i+1) (.slice (some ⟨g6,0,none⟩) (i+1) cap6) ((xs.take (i+1)).map (fun x=>G.mk 3 d [] (x.map fun y=>G.mk 2 d y []))) (w7.setCell ⟨w.heap.size+1+1+1,3,none⟩ (.slice (some ⟨g6,0,none⟩) (i+1) cap6))):=by
     show KcAt _ _ _ _ _ _ _ _ _ _ _
     rw[HX.out]
     exact HH.out.2.2.2
    clear HH NX OWN F5 OK NX2 o0 o1 o2' o3 of CA CP HX
    go_wp2_with fail
    go_roundw
    case rel=>exact⟨i+1,_,_,by go_num,by omega,HREL.out⟩
    case measure=>simp[intOf];omega
  ·have hin:i=n:=by omega
   subst hin
   obtain⟨p0,p1,p2,p3,pf⟩:=g_cells (b:=w.heap.size+1+1+1) K1.out.o
   obtain⟨r0,r1,r2,r3,rf⟩:=g_cells (b:=w.heap.size+1) K1.out.res
   have HF:=zH (K1.out.post (k:=6) (by decide) HD.out hn4 (fr4 w1 (w.heap.size+1) (.int .i64 6) (.int .i64 d) (.slice none 0 0) (.slice va i vc)))
   rw[List.take_of_length_le (by rw[←HNX.out];omega)] at HF
   clear K1
   go_wp2_with fail
   exact bodyPost_ret (v:=.agg #[.int .i64 6,.int .i64 d,.slice none 0 0,.slice va i vc]) (by simp[results,Tryz.f65,go_sem,r0,r1,r2,r3]) rfl HF.out
end Go.Proofs.YtnjjgbcmjnfijaaGreatDoor
