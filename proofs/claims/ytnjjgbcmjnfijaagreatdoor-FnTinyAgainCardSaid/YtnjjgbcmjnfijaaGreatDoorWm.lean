/- The package's writer of tiny bytes: several points, lines, polygons. No condition. -/
import Derived.Test.YtnjjgbcmjnfijaaGreatDoorWl
namespace Go.Proofs.YtnjjgbcmjnfijaaGreatDoor
set_option maxRecDepth 100000
set_option maxHeartbeats 1000000
open Go.RowKit
theorem id282{B wb:Nat}{q:Wt}{H C:List UInt8}{w:World}(h:WtAt B wb q H C w)(n:Nat):Calls Tryz.prog 282 #[.pointer (some ⟨wb,0,none⟩),.int .i64 n] w fun e w'=>e=.returned .nilIface∧w=w':=by
 have c17:w.cell? ⟨wb,17,none⟩=some (.bool false):=h.c 17
 clear h
 go_enter Tryz.func282,Tryz.ntmps282
 go_wp2_with fail
 go_ret
 exact⟨rfl,rfl⟩
theorem sqN_ok2{α:Type}{ps:List Int}{N:List Int→α→List Int}:∀(xs:List α) (Q:List Int),(∀x∈xs,∀Q,QOk ps Q→QOk ps (N Q x))→QOk ps Q→QOk ps (sqN N Q xs)
 | [],_,_,hQ=>hQ
 | x :: xs,Q,h,hQ=>sqN_ok2 xs _ (fun y hy=>h y (by simp[hy])) (h x (by simp) Q hQ)
structure MsAt {α:Type} (E:List Int→α→List UInt8) (N:List Int→α→List Int) (B wb:Nat) (q:Wt) (Q:List Int) (H C:List UInt8) (w:World) (BX:Array Value) (tB:TypeId) (xs:List α) (wr:World):Prop where
 st:∃hv cv rf ok mn mx kd,WtAt B wb ({ q with hv:=hv,kind:=kd }.on cv rf ok mn mx) H (C++sqE E N Q xs) wr∧RfOk rf (sqN N Q xs)∧Ch wb q ({ q with hv:=hv,kind:=kd }.on cv rf ok mn mx) w wr∧¬Rw wb ({ q with hv:=hv,kind:=kd }.on cv rf ok mn mx) w.heap.size
 box:wr.heap[w.heap.size]?=some (.cells BX tB (0,0))
theorem MsAt.run{α:Type}{E:List Int→α→List UInt8}{N:List Int→α→List Int}{B wb:Nat}{q:Wt}{Q:List Int}{H C:List UInt8}{w:World}{BX:Array Value}{tB:TypeId}{xs:List α}{wr wy:World}(h:MsAt E N B wb q Q H C w BX tB xs wr)(f:ZF wr wy):MsAt E N B wb q Q H C w BX tB xs wy:=by
 obtain⟨⟨hv,cv,rf,ok,mn,mx,kd,h1,h2,h3,h4⟩,hb⟩:=h
 exact⟨⟨hv,cv,rf,ok,mn,mx,kd,h1.keep f,h2,h3.trans (Ch.of f),h4⟩,(f.block _ (zG hb).1 (fun h=>h)).trans hb⟩
theorem MsAt.next{α:Type}{E:List Int→α→List UInt8}{N:List Int→α→List Int}{B wb:Nat}{q:Wt}{Q:List Int}{H C:List UInt8}{w:World}{BX:Array Value}{tB:TypeId}{xs:List α}{x:α}{wr w2:World}{hv cv:Value}{rf:Nat→Int}{ok:Bool}{mn mx:Nat→Int}{kd:Nat}{e:Ending}(hb:wr.heap[w.heap.size]?=some (.cells BX tB (0,0)))(h3:Ch wb q ({ q with hv:=hv,kind:=kd }.on cv rf ok mn mx) w wr)(h4:¬Rw wb ({ q with hv:=hv,kind:=kd }.on cv rf ok mn mx) w.heap.size)
  (hp:WpPost B wb ({ q with hv:=hv,kind:=kd }.on cv rf ok mn mx) (N (sqN N Q xs) x) H (C++sqE E N Q xs++E (sqN N Q xs) x) wr e w2):MsAt E N B wb q Q H C w BX tB (xs++[x]) w2:=by
 obtain⟨_,cv2,rf2,ok2,mn2,mx2,hp⟩:=hp
 obtain⟨h1,h2,hc⟩:=hp.out
 obtain⟨s1,s2⟩:=sqE_snoc E N xs Q x
 have l1:=(zG hb).1
 refine⟨⟨hv,cv2,rf2,ok2,mn2,mx2,kd,?_,by rw[s2];exact h2,h3.trans hc,hc.not h4 l1⟩,(hc.fr.block _ l1 h4).trans hb⟩
 rw[s1,←List.append_assoc]
 exact h1
theorem wk225{B wb:Nat}{q:Wt}{H C:List UInt8}{w:World}(h:WtAt B wb q H C w){d p z m x0:Nat}{ps Q:List Int}(hq:WqOk q d ps p z m x0)(hrf:RfOk q.rf Q)(hQ:QOk ps Q)(hH:H.length≤900){xs:List (List (Int × Int))}(hxs:∀x∈xs,WR ps 1 x∧∀y∈x,y.2.natAbs < 35184372088832){g o n c:Nat}(hE:RowsAt (PtE d) (fun b=>b < B) 6 w (.slice (some ⟨g,o,none⟩) n c) (xs.map (·.map flp)))(hnx:n=xs.length)(hn0:0 < n)(hn4:n≤4096)(hC:(C++(Lib.uvarint n++sqE (rowE ps) (lastQ ps) Q xs)).length≤10000000000000):
  Calls Tryz.prog 225 #[.pointer (some ⟨wb,0,none⟩),.agg #[.slice (some ⟨g,o,none⟩) n c,.int .u8 d]] w (KwPost B wb q (hdE H 4 p x0 q.ex) (C++(Lib.uvarint n++sqE (rowE ps) (lastQ ps) Q xs)) w):=by
 have hsf:=st_fl
 rw[←List.append_assoc] at hC ⊢
 have hp0:0 < ps.length:=by have:=hq.wc.lo;omega
 have HRW:Hid (∀w1,Fr (Rw wb q) w w1→RowsAt (PtE d) (fun b=>b < B) 6 w1 (.slice (some ⟨g,o,none⟩) n c) (xs.map (·.map flp))):=fun w1 f=>hE.kept (PtE.kp d) (fun b hb hl=>f.block b hl (fun hr=>by have h9:=(h.own_ge b hr).1;have h8:b < B:=hb;omega))
 have hx0:0 < xs.length:=by omega
 have CE:Hid (∀w1,Fr (Rw wb q) w w1→Calls Tryz.prog 270 #[.agg #[.slice (some ⟨g,o,none⟩) n c,.int .u8 d]] w1 (Ac (.bool false) w1)):=fun w1 f=>by
  obtain⟨a1,a2,a3,a4,hl,k0,k1,k2,k3,k4,k5⟩:=pt_at (HRW.out w1 f) (i:=0) (by rw[List.length_map];exact hx0)
  simp only[Nat.zero_mul,Nat.add_zero] at k0 k1 k2 k3 k4 k5
  exact em270 a1 a2 a3 a4 d g o n c w1 hn0 k0 k1 k2 k3 k4 k5
 have C281:Hid (∀w1 hv,WtAt B wb { q with kind:=4,hv:=hv } (hdE H 4 p x0 q.ex) C w1→Calls Tryz.prog 281 #[.pointer (some ⟨wb,0,none⟩),.int .u64 n] w1 (WrPost B wb { q with kind:=4,hv:=hv } (hdE H 4 p x0 q.ex) (C++Lib.uvarint n) w1)):=fun w1 hv h1=>uv281 h1 n (by omega) (by rw[List.length_append] at hC;omega)
 obtain⟨CU,hCU⟩:∃CU,CU=C++Lib.uvarint n:=⟨_,rfl⟩
 rw[←hCU] at hC C281 ⊢
 have HL:Hid (∀(i:Nat) (hi:i < xs.length),(CU++sqE (rowE ps) (lastQ ps) Q (xs.take i)++(rowE ps) (sqN (lastQ ps) Q (xs.take i)) xs[i]).length≤10000000000000):=fun i hi=>by
  have h1:=sqE_take (rowE ps) (lastQ ps) Q xs (i+1)
  rw[List.take_succ_eq_append_getElem hi,(sqE_snoc (rowE ps) (lastQ ps) (xs.take i) Q xs[i]).1,List.length_append] at h1
  rw[List.length_append] at hC
  rw[List.length_append,List.length_append]
  omega
 have HQK:Hid (∀i,QOk ps (sqN (lastQ ps) Q (xs.take i))):=fun i=>sqN_ok2 _ _ (fun x hx Q hQ=>lastQ_ok (hxs x (List.mem_of_mem_take hx)).1 hp0 hQ) hQ
 have HEL:Hid (∀(i:Nat) (hi:i < xs.length) w1 hv cv rf ok mn mx kd,WtAt B wb ({ q with hv:=hv,kind:=kd }.on cv rf ok mn mx) (hdE H 4 p x0 q.ex) (CU++sqE (rowE ps) (lastQ ps) Q (xs.take i)) w1→RfOk rf (sqN (lastQ ps) Q (xs.take i))→Fr (Rw wb q) w w1→∃a1 a2 a3 a4:Nat,Calls Tryz.prog 141 #[.agg #[.slice (some ⟨g,o,none⟩) n c,.int .u8 d],.int .i64 i] w1 (Ac (.agg #[.float .f64 a1,.float .f64 a2,.float .f64 a3,.float .f64 a4,.int .u8 d,.bool true]) w1)∧∀w2,ZF w1 w2→Calls Tryz.prog 278 #[.pointer (some ⟨wb,0,none⟩),(.agg #[.float .f64 a1,.float .f64 a2,.float .f64 a3,.float .f64 a4,.int .u8 d,.bool true])] w2 (WpPost B wb ({ q with hv:=hv,kind:=kd }.on cv rf ok mn mx) ((lastQ ps) (sqN (lastQ ps) Q (xs.take i)) xs[i]) (hdE H 4 p x0 q.ex) (CU++sqE (rowE ps) (lastQ ps) Q (xs.take i)++(rowE ps) (sqN (lastQ ps) Q (xs.take i)) xs[i]) w2)):=fun i hi w1 hv cv rf ok mn mx kd hw hr f=>by
  obtain⟨a1,a2,a3,a4,hl,k0,k1,k2,k3,k4,k5⟩:=pt_at (HRW.out w1 f) (i:=i) (by rw[List.length_map];exact hi)
  rw[List.getElem_map] at hl
  obtain⟨hw2,hs⟩:=hxs xs[i] (List.getElem_mem hi)
  refine⟨a1,a2,a3,a4,(ac141 d g o n c i a1 a2 a3 a4 d true w1 (by omega) k0 k1 k2 k3 k4 k5).mono (fun e w' h=>⟨h.1,by rw[h.2];exact ((Fr.refl _ _).alloc _).alloc _⟩),fun w2 f2=>?_⟩
  exact wc278 (hw.keep f2) hq.d3 ⟨hq.wc.dims,hq.wc.lo,hq.wc.hi,hq.wc.bd,hq.wc.sc⟩ hr (HQK.out i) hw2 hs hl (HL.out i hi)
 have C274:Hid (∀w1,WtAt B wb q H C w1→Calls Tryz.prog 274 #[.pointer (some ⟨wb,0,none⟩),.int .i64 4] w1 (WkPost B wb { q with kind:=4 } (H++[UInt8.ofNat (2*p*16+4)]) C w1)):=fun w1 h1=>tp274 h1 hq.p7 hq.px 4 (by decide) (by omega)
 have C277:Hid (∀w1 hv,WtAt B wb { q with kind:=4,hv:=hv } (H++[UInt8.ofNat (2*p*16+4)]) C w1→Calls Tryz.prog 277 #[.pointer (some ⟨wb,0,none⟩)] w1 (WhPost B wb { q with kind:=4,hv:=hv } (hdE H 4 p x0 q.ex) C w1)):=fun w1 hv h1=>ih277 h1 hq.z7 hq.m7 hq.pz hq.pm (by simp;omega) x0 hq.hx
 have CTY:=zH ac139
 have CNT:=zH ac140
 have H0:=zH h
 have c4:Hid (∀w1 hv,WtAt B wb { q with kind:=4,hv:=hv } (H++[UInt8.ofNat (2*p*16+4)]) C w1→w1.cell? ⟨wb,4,none⟩=some (.int .u8 d)):=fun w1 hv h1=>by rw[h1.c];show some (Value.int .u8 q.dm)=_;rw[hq.dm]
 have hdd:((d:Int) != (d:Int))=false:=by simp
 have HN:=zH hnx
 have HRF:=zH hrf
 have hI:IntKind.u64.wrap (n:Int)=(n:Int):=by simp[IntKind.wrap,IntKind.bits,IntKind.signed];omega
 have b0:=zN w (.cells #[.slice (some ⟨g,o,none⟩) n c,.int .u8 d] 130)
 obtain⟨w0,hw0⟩:∃w0,w0=w.alloc (.cells #[.slice (some ⟨g,o,none⟩) n c,.int .u8 d] 130):=⟨_,rfl⟩
 rw[←hw0] at b0
 have F0:Hid (ZF w w0):=by show Fr _ _ _;rw[hw0];exact (Fr.refl _ w).alloc _
 have B0:=zH b0
 have HW0:=zH hw0
 have NB:Hid (¬Rw wb q w.heap.size):=h.not (Nat.le_refl _)
 clear h hq hrf hQ hH hw0 b0 hE hnx hC hCU hxs hp0 HRW HL HQK hx0
 go_enter Tryz.func225,Tryz.ntmps225
 go_upto_region 1 with fail
 rw[←HW0.out]
 go_upto_region 2 with (go_at_call 274;(with_reducible refine (C274.out _ (H0.out.keep F0.out)).mono ?_);rintro e w1 ⟨rfl,hv,hp⟩)
 have CH01:Hid (Ch wb q { q with kind:=4,hv:=hv } w0 w1):=⟨hp.out.2.fr,hp.out.2.nx⟩
 have CH1:Hid (Ch wb q { q with kind:=4,hv:=hv } w w1):=(Ch.of F0.out).trans CH01.out
 have HA1:=zH hp.out.1
 have hb1:Hid (w1.heap[w.heap.size]?=some (.cells #[.slice (some ⟨g,o,none⟩) n c,.int .u8 d] 130 (0,0))):=(CH01.out.fr.block _ (zG B0.out).1 NB.out).trans B0.out
 have NB1:Hid (¬Rw wb { q with kind:=4,hv:=hv } w.heap.size):=CH01.out.not NB.out (zG B0.out).1
 clear hp
 obtain⟨q0,q1,_⟩:=lm_cells hb1.out
 go_upto_region 3 with (go_at_call 139;refine (CTY.out _ _ _ _ _ _).mono ?_;rintro e w2 ⟨rfl,hw2⟩;have F2:Hid (ZF w1 w2):=(by show Fr _ _ _;rw[hw2];exact (Fr.refl _ _).alloc _);clear hw2)
 have HA2:=zH (HA1.out.keep F2.out)
 have d4:=c4.out _ _ HA2.out
 have hb2:Hid (w2.heap[w.heap.size]?=some (.cells #[.slice (some ⟨g,o,none⟩) n c,.int .u8 d] 130 (0,0))):=(F2.out.block _ (zG hb1.out).1 (fun h=>h)).trans hb1.out
 clear q0 q1
 obtain⟨q0,q1,_⟩:=lm_cells hb2.out
 have CE2:=zH (CE.out w2 (CH1.out.trans (Ch.of F2.out)).fr)
 go_upto_region 8 with (go_at_call 270;(with_reducible refine CE2.out.mono ?_);rintro e w3 ⟨rfl,f3⟩;have F3:=zH f3;clear f3)
 have HA3:=zH (HA2.out.keep F3.out)
 have hb3:Hid (w3.heap[w.heap.size]?=some (.cells #[.slice (some ⟨g,o,none⟩) n c,.int .u8 d] 130 (0,0))):=(F3.out.block _ (zG hb2.out).1 (fun h=>h)).trans hb2.out
 go_upto_region 9 with (go_at_call 277;(with_reducible refine (C277.out _ _ HA3.out).mono ?_);rintro e w4 ⟨rfl,hv4,hp⟩)
 have CH4:Hid (Ch wb q { q with kind:=4,hv:=hv4 } w w4):=(CH1.out.trans (Ch.of (F2.out.trans F3.out))).trans hp.out.2
 have HA4:Hid (WtAt B wb { q with kind:=4,hv:=hv4 } (hdE H 4 p x0 q.ex) C w4):=hp.out.1
 have hb4:Hid (w4.heap[w.heap.size]?=some (.cells #[.slice (some ⟨g,o,none⟩) n c,.int .u8 d] 130 (0,0))):=(hp.out.2.fr.block _ (zG hb3.out).1 NB1.out).trans hb3.out
 have NB4:Hid (¬Rw wb { q with kind:=4,hv:=hv4 } w.heap.size):=hp.out.2.not NB1.out (zG hb3.out).1
 clear hp q0 q1 d4
 obtain⟨q0,q1,_⟩:=lm_cells hb4.out
 go_upto_region 10 with (go_at_call 140;refine (CNT.out _ _ _ _ _ _).mono ?_;rintro e w5 ⟨rfl,hw5⟩;have F5:Hid (ZF w4 w5):=(by show Fr _ _ _;rw[hw5];exact (Fr.refl _ _).alloc _);clear hw5)
 have HA5:=zH (HA4.out.keep F5.out)
 have hb5:Hid (w5.heap[w.heap.size]?=some (.cells #[.slice (some ⟨g,o,none⟩) n c,.int .u8 d] 130 (0,0))):=(F5.out.block _ (zG hb4.out).1 (fun h=>h)).trans hb4.out
 clear q0 q1
 go_upto_region 11 with (go_at_call 281;(with_reducible refine (C281.out _ _ HA5.out).mono ?_);rintro e w6 ⟨rfl,cv6,hp⟩)
 have M6:Hid (MsAt (rowE ps) (lastQ ps) B wb q Q (hdE H 4 p x0 q.ex) CU w #[.slice (some ⟨g,o,none⟩) n c,.int .u8 d] 130 [] w6):=by
  refine⟨⟨hv4,cv6,q.rf,q.ok,q.mn,q.mx,4,?_,HRF.out,(CH4.out.trans (Ch.of F5.out)).trans hp.out.2,hp.out.2.not NB4.out (zG hb5.out).1⟩,(hp.out.2.fr.block _ (zG hb5.out).1 NB4.out).trans hb5.out⟩
  rw[sqE,List.append_nil]
  exact hp.out.1
 have C282:Hid (Calls Tryz.prog 282 #[.pointer (some ⟨wb,0,none⟩),.int .i64 n] w6 fun e w'=>e=.returned .nilIface∧w6=w'):=id282 hp.out.1 n
 clear hp
 go_wp2_with (go_at_call 282;(with_reducible refine C282.out.mono ?_);rintro e w' ⟨rfl,rfl⟩)
 go_loopw [8] (fun iv wr=>∃i:Nat,iv=.int .i64 (i:Int)∧i≤n∧Hid (MsAt (rowE ps) (lastQ ps) B wb q Q (hdE H 4 p x0 q.ex) CU w #[.slice (some ⟨g,o,none⟩) n c,.int .u8 d] 130 (xs.take i) wr)) (fun iv _=>n - (intOf iv).toNat)
 case atStart=>exact⟨0,rfl,Nat.zero_le _,M6.out⟩
 case round =>
  obtain⟨i,rfl,hi,hrel⟩:=hrel
  by_cases hlt:i < n
  ·obtain⟨hv,cv,rf,ok,mn,mx,kd,h1,h2,h3,h4⟩:=hrel.out.st
   have hix:i < xs.length:=by rw[←HN.out];exact hlt
   obtain⟨a1,a2,a3,a4,ca,cb⟩:=HEL.out i hix wr hv cv rf ok mn mx kd h1 h2 h3.fr
   have CA:=zH ca
   have CB:=zH cb
   have HNXT:Hid (∀e w9 w10,ZF wr w9→WpPost B wb ({ q with hv:=hv,kind:=kd }.on cv rf ok mn mx) ((lastQ ps) (sqN (lastQ ps) Q (xs.take i)) (xs[i]'hix)) (hdE H 4 p x0 q.ex) (CU++sqE (rowE ps) (lastQ ps) Q (xs.take i)++(rowE ps) (sqN (lastQ ps) Q (xs.take i)) (xs[i]'hix)) w9 e w10→MsAt (rowE ps) (lastQ ps) B wb q Q (hdE H 4 p x0 q.ex) CU w #[.slice (some ⟨g,o,none⟩) n c,.int .u8 d] 130 (xs.take (i+1)) w10):=fun e w9 w10 f hp=>by
    rw[List.take_succ_eq_append_getElem hix]
    exact MsAt.next ((f.block _ (zG hrel.out.box).1 (fun h=>h)).trans hrel.out.box) (h3.trans (Ch.of f)) h4 hp
   obtain⟨q0,q1,_⟩:=lm_cells hrel.out.box
   clear ca cb h1 h2 h3 h4 hrel M6
   go_upto_region 18 with (go_at_call 141;(with_reducible refine CA.out.mono ?_);rintro e w8 ⟨rfl,f8⟩;have F8:=zH f8;clear f8)
   obtain⟨w9,hw9⟩:∃w9,w9=w8.alloc (.cells #[.float .f64 a1,.float .f64 a2,.float .f64 a3,.float .f64 a4,.int .u8 d,.bool true] 115):=⟨_,rfl⟩
   have b9:=zN w8 (.cells #[.float .f64 a1,.float .f64 a2,.float .f64 a3,.float .f64 a4,.int .u8 d,.bool true] 115)
   rw[←hw9] at b9 ⊢
   have F9:Hid (ZF wr w9):=by show Fr _ _ _;rw[hw9];exact F8.out.alloc _
   clear q0 q1
   obtain⟨r0,r1,r2,r3,r4,r5,_⟩:=pt_cells b9
   clear hw9 b9
   go_wp2_with (go_at_call 278;(with_reducible refine (CB.out w9 F9.out).mono ?_);rintro e w10 hp;have R10:=zH (HNXT.out _ _ _ F9.out hp);obtain⟨rfl,hp2⟩:=hp;clear hp2)
   go_roundw
   case rel=>exact⟨i+1,by go_num,by omega,R10.out⟩
   case measure=>simp[intOf];omega
  ·have hin:i=n:=by omega
   subst hin
   have HF:Hid (∃q',WtAt B wb q' (hdE H 4 p x0 q.ex) (CU++sqE (rowE ps) (lastQ ps) Q xs) wr∧Ch wb q q' w wr):=by
    obtain⟨hv,cv,rf,ok,mn,mx,kd,h1,h2,h3,h4⟩:=hrel.out.st
    have ht:xs.take i=xs:=List.take_of_length_le (by rw[←HN.out];exact Nat.le_refl _)
    rw[ht] at h1
    exact⟨_,h1,h3⟩
   clear hrel M6
   go_wp2_with fail
   go_ret
   obtain⟨q',h1,h2⟩:=HF.out
   exact⟨rfl,q',h1,h2⟩
theorem wk226{B wb:Nat}{q:Wt}{H C:List UInt8}{w:World}(h:WtAt B wb q H C w){d p z m x0:Nat}{ps Q:List Int}(hq:WqOk q d ps p z m x0)(hrf:RfOk q.rf Q)(hQ:QOk ps Q)(hH:H.length≤900){xs:List (List (Int × Int))}(hxs:LsOk ps xs){g o n c:Nat}(hE:RowsAt (LnE d) (fun b=>b < B) 2 w (.slice (some ⟨g,o,none⟩) n c) (xs.map (·.map flp)))(hnx:n=xs.length)(hn0:0 < n)(hn4:n≤4096)(hC:(C++(Lib.uvarint n++sqE (lineE ps) (lastQ ps) Q xs)).length≤10000000000000):
  Calls Tryz.prog 226 #[.pointer (some ⟨wb,0,none⟩),.agg #[.slice (some ⟨g,o,none⟩) n c,.int .u8 d]] w (KwPost B wb q (hdE H 5 p x0 q.ex) (C++(Lib.uvarint n++sqE (lineE ps) (lastQ ps) Q xs)) w):=by
 have hsf:=st_fl
 rw[←List.append_assoc] at hC ⊢
 have hp0:0 < ps.length:=by have:=hq.wc.lo;omega
 have HRW:Hid (∀w1,Fr (Rw wb q) w w1→RowsAt (LnE d) (fun b=>b < B) 2 w1 (.slice (some ⟨g,o,none⟩) n c) (xs.map (·.map flp))):=fun w1 f=>hE.kept (LnE.kp d) (fun b hb hl=>f.block b hl (fun hr=>by have h9:=(h.own_ge b hr).1;have h8:b < B:=hb;omega))
 have hx0:0 < xs.length:=by omega
 have CE:Hid (∀w1,Fr (Rw wb q) w w1→Calls Tryz.prog 267 #[.agg #[.slice (some ⟨g,o,none⟩) n c,.int .u8 d]] w1 (Ac (.bool false) w1)):=fun w1 f=>by
  obtain⟨g2,o2,n2,c2,hl,k0,k1⟩:=ln_at (HRW.out w1 f) (i:=0) (by rw[List.length_map];exact hx0)
  rw[Nat.zero_mul,Nat.add_zero] at k0 k1
  rw[List.getElem_map] at hl
  obtain⟨⟨mm,m0,m1,hw2⟩,hs⟩:=hxs xs[0] (List.getElem_mem hx0)
  obtain⟨_,_,_,_,e,e1,_,_,_,e3,_⟩:=hl
  simp only[List.cons.injEq,Value.slice.injEq,and_true,true_and] at e
  exact em267 d hq.d3 g o n c g2 o2 n2 c2 mm w1 hn0 (by rw[e.2.1,e1,List.length_map,hw2.len,hq.pl]) (by omega) m0 k0 k1
 have C281:Hid (∀w1 hv,WtAt B wb { q with kind:=5,hv:=hv } (hdE H 5 p x0 q.ex) C w1→Calls Tryz.prog 281 #[.pointer (some ⟨wb,0,none⟩),.int .u64 n] w1 (WrPost B wb { q with kind:=5,hv:=hv } (hdE H 5 p x0 q.ex) (C++Lib.uvarint n) w1)):=fun w1 hv h1=>uv281 h1 n (by omega) (by rw[List.length_append] at hC;omega)
 obtain⟨CU,hCU⟩:∃CU,CU=C++Lib.uvarint n:=⟨_,rfl⟩
 rw[←hCU] at hC C281 ⊢
 have HL:Hid (∀(i:Nat) (hi:i < xs.length),(CU++sqE (lineE ps) (lastQ ps) Q (xs.take i)++(lineE ps) (sqN (lastQ ps) Q (xs.take i)) xs[i]).length≤10000000000000):=fun i hi=>by
  have h1:=sqE_take (lineE ps) (lastQ ps) Q xs (i+1)
  rw[List.take_succ_eq_append_getElem hi,(sqE_snoc (lineE ps) (lastQ ps) (xs.take i) Q xs[i]).1,List.length_append] at h1
  rw[List.length_append] at hC
  rw[List.length_append,List.length_append]
  omega
 have HQK:Hid (∀i,QOk ps (sqN (lastQ ps) Q (xs.take i))):=fun i=>sqN_ok2 _ _ (fun x hx Q hQ=>by obtain⟨⟨mm,_,_,hw2⟩,_⟩:=hxs x (List.mem_of_mem_take hx);exact lastQ_ok hw2 hp0 hQ) hQ
 have HEL:Hid (∀(i:Nat) (hi:i < xs.length) w1 hv cv rf ok mn mx kd,WtAt B wb ({ q with hv:=hv,kind:=kd }.on cv rf ok mn mx) (hdE H 5 p x0 q.ex) (CU++sqE (lineE ps) (lastQ ps) Q (xs.take i)) w1→RfOk rf (sqN (lastQ ps) Q (xs.take i))→Fr (Rw wb q) w w1→∃g2 o2 n2 c2:Nat,Calls Tryz.prog 144 #[.agg #[.slice (some ⟨g,o,none⟩) n c,.int .u8 d],.int .i64 i] w1 (Ac (.agg #[.int .u8 d,.slice (some ⟨g2,o2,none⟩) n2 c2]) w1)∧∀w2,ZF w1 w2→Calls Tryz.prog 279 #[.pointer (some ⟨wb,0,none⟩),(.agg #[.int .u8 d,.slice (some ⟨g2,o2,none⟩) n2 c2])] w2 (WpPost B wb ({ q with hv:=hv,kind:=kd }.on cv rf ok mn mx) ((lastQ ps) (sqN (lastQ ps) Q (xs.take i)) xs[i]) (hdE H 5 p x0 q.ex) (CU++sqE (lineE ps) (lastQ ps) Q (xs.take i)++(lineE ps) (sqN (lastQ ps) Q (xs.take i)) xs[i]) w2)):=fun i hi w1 hv cv rf ok mn mx kd hw hr f=>by
  obtain⟨g2,o2,n2,c2,hl,k0,k1⟩:=ln_at (HRW.out w1 f) (i:=i) (by rw[List.length_map];exact hi)
  rw[List.getElem_map] at hl
  obtain⟨⟨mm,m0,m1,hw2⟩,hs⟩:=hxs xs[i] (List.getElem_mem hi)
  refine⟨g2,o2,n2,c2,(ac144 d g o n c i d g2 o2 n2 c2 w1 (by omega) k0 k1).mono (fun e w' h=>⟨h.1,by rw[h.2];exact ((Fr.refl _ _).alloc _).alloc _⟩),fun w2 f2=>?_⟩
  exact wl279 (hw.keep f2) hq.d3 ⟨hq.wc.dims,hq.wc.lo,hq.wc.hi,hq.wc.bd,hq.wc.sc⟩ hq.pl hr (HQK.out i) m0 m1 hw2 hs ((LnE.kp d).kept (fun b _ hl=>f2.block b hl (fun h=>h)) hl) (HL.out i hi)
 have C274:Hid (∀w1,WtAt B wb q H C w1→Calls Tryz.prog 274 #[.pointer (some ⟨wb,0,none⟩),.int .i64 5] w1 (WkPost B wb { q with kind:=5 } (H++[UInt8.ofNat (2*p*16+5)]) C w1)):=fun w1 h1=>tp274 h1 hq.p7 hq.px 5 (by decide) (by omega)
 have C277:Hid (∀w1 hv,WtAt B wb { q with kind:=5,hv:=hv } (H++[UInt8.ofNat (2*p*16+5)]) C w1→Calls Tryz.prog 277 #[.pointer (some ⟨wb,0,none⟩)] w1 (WhPost B wb { q with kind:=5,hv:=hv } (hdE H 5 p x0 q.ex) C w1)):=fun w1 hv h1=>ih277 h1 hq.z7 hq.m7 hq.pz hq.pm (by simp;omega) x0 hq.hx
 have CTY:=zH ac142
 have CNT:=zH ac143
 have H0:=zH h
 have c4:Hid (∀w1 hv,WtAt B wb { q with kind:=5,hv:=hv } (H++[UInt8.ofNat (2*p*16+5)]) C w1→w1.cell? ⟨wb,4,none⟩=some (.int .u8 d)):=fun w1 hv h1=>by rw[h1.c];show some (Value.int .u8 q.dm)=_;rw[hq.dm]
 have hdd:((d:Int) != (d:Int))=false:=by simp
 have HN:=zH hnx
 have HRF:=zH hrf
 have hI:IntKind.u64.wrap (n:Int)=(n:Int):=by simp[IntKind.wrap,IntKind.bits,IntKind.signed];omega
 have b0:=zN w (.cells #[.slice (some ⟨g,o,none⟩) n c,.int .u8 d] 134)
 obtain⟨w0,hw0⟩:∃w0,w0=w.alloc (.cells #[.slice (some ⟨g,o,none⟩) n c,.int .u8 d] 134):=⟨_,rfl⟩
 rw[←hw0] at b0
 have F0:Hid (ZF w w0):=by show Fr _ _ _;rw[hw0];exact (Fr.refl _ w).alloc _
 have B0:=zH b0
 have HW0:=zH hw0
 have NB:Hid (¬Rw wb q w.heap.size):=h.not (Nat.le_refl _)
 clear h hq hrf hQ hH hw0 b0 hE hnx hC hCU hxs hp0 HRW HL HQK hx0
 go_enter Tryz.func226,Tryz.ntmps226
 go_upto_region 1 with fail
 rw[←HW0.out]
 go_upto_region 2 with (go_at_call 274;(with_reducible refine (C274.out _ (H0.out.keep F0.out)).mono ?_);rintro e w1 ⟨rfl,hv,hp⟩)
 have CH01:Hid (Ch wb q { q with kind:=5,hv:=hv } w0 w1):=⟨hp.out.2.fr,hp.out.2.nx⟩
 have CH1:Hid (Ch wb q { q with kind:=5,hv:=hv } w w1):=(Ch.of F0.out).trans CH01.out
 have HA1:=zH hp.out.1
 have hb1:Hid (w1.heap[w.heap.size]?=some (.cells #[.slice (some ⟨g,o,none⟩) n c,.int .u8 d] 134 (0,0))):=(CH01.out.fr.block _ (zG B0.out).1 NB.out).trans B0.out
 have NB1:Hid (¬Rw wb { q with kind:=5,hv:=hv } w.heap.size):=CH01.out.not NB.out (zG B0.out).1
 clear hp
 obtain⟨q0,q1,_⟩:=lm_cells hb1.out
 go_upto_region 3 with (go_at_call 142;refine (CTY.out _ _ _ _ _ _).mono ?_;rintro e w2 ⟨rfl,hw2⟩;have F2:Hid (ZF w1 w2):=(by show Fr _ _ _;rw[hw2];exact (Fr.refl _ _).alloc _);clear hw2)
 have HA2:=zH (HA1.out.keep F2.out)
 have d4:=c4.out _ _ HA2.out
 have hb2:Hid (w2.heap[w.heap.size]?=some (.cells #[.slice (some ⟨g,o,none⟩) n c,.int .u8 d] 134 (0,0))):=(F2.out.block _ (zG hb1.out).1 (fun h=>h)).trans hb1.out
 clear q0 q1
 obtain⟨q0,q1,_⟩:=lm_cells hb2.out
 have CE2:=zH (CE.out w2 (CH1.out.trans (Ch.of F2.out)).fr)
 go_upto_region 8 with (go_at_call 267;(with_reducible refine CE2.out.mono ?_);rintro e w3 ⟨rfl,f3⟩;have F3:=zH f3;clear f3)
 have HA3:=zH (HA2.out.keep F3.out)
 have hb3:Hid (w3.heap[w.heap.size]?=some (.cells #[.slice (some ⟨g,o,none⟩) n c,.int .u8 d] 134 (0,0))):=(F3.out.block _ (zG hb2.out).1 (fun h=>h)).trans hb2.out
 go_upto_region 9 with (go_at_call 277;(with_reducible refine (C277.out _ _ HA3.out).mono ?_);rintro e w4 ⟨rfl,hv4,hp⟩)
 have CH4:Hid (Ch wb q { q with kind:=5,hv:=hv4 } w w4):=(CH1.out.trans (Ch.of (F2.out.trans F3.out))).trans hp.out.2
 have HA4:Hid (WtAt B wb { q with kind:=5,hv:=hv4 } (hdE H 5 p x0 q.ex) C w4):=hp.out.1
 have hb4:Hid (w4.heap[w.heap.size]?=some (.cells #[.slice (some ⟨g,o,none⟩) n c,.int .u8 d] 134 (0,0))):=(hp.out.2.fr.block _ (zG hb3.out).1 NB1.out).trans hb3.out
 have NB4:Hid (¬Rw wb { q with kind:=5,hv:=hv4 } w.heap.size):=hp.out.2.not NB1.out (zG hb3.out).1
 clear hp q0 q1 d4
 obtain⟨q0,q1,_⟩:=lm_cells hb4.out
 go_upto_region 10 with (go_at_call 143;refine (CNT.out _ _ _ _ _ _).mono ?_;rintro e w5 ⟨rfl,hw5⟩;have F5:Hid (ZF w4 w5):=(by show Fr _ _ _;rw[hw5];exact (Fr.refl _ _).alloc _);clear hw5)
 have HA5:=zH (HA4.out.keep F5.out)
 have hb5:Hid (w5.heap[w.heap.size]?=some (.cells #[.slice (some ⟨g,o,none⟩) n c,.int .u8 d] 134 (0,0))):=(F5.out.block _ (zG hb4.out).1 (fun h=>h)).trans hb4.out
 clear q0 q1
 go_upto_region 11 with (go_at_call 281;(with_reducible refine (C281.out _ _ HA5.out).mono ?_);rintro e w6 ⟨rfl,cv6,hp⟩)
 have M6:Hid (MsAt (lineE ps) (lastQ ps) B wb q Q (hdE H 5 p x0 q.ex) CU w #[.slice (some ⟨g,o,none⟩) n c,.int .u8 d] 134 [] w6):=by
  refine⟨⟨hv4,cv6,q.rf,q.ok,q.mn,q.mx,5,?_,HRF.out,(CH4.out.trans (Ch.of F5.out)).trans hp.out.2,hp.out.2.not NB4.out (zG hb5.out).1⟩,(hp.out.2.fr.block _ (zG hb5.out).1 NB4.out).trans hb5.out⟩
  rw[sqE,List.append_nil]
  exact hp.out.1
 have C282:Hid (Calls Tryz.prog 282 #[.pointer (some ⟨wb,0,none⟩),.int .i64 n] w6 fun e w'=>e=.returned .nilIface∧w6=w'):=id282 hp.out.1 n
 clear hp
 go_wp2_with (go_at_call 282;(with_reducible refine C282.out.mono ?_);rintro e w' ⟨rfl,rfl⟩)
 go_loopw [8] (fun iv wr=>∃i:Nat,iv=.int .i64 (i:Int)∧i≤n∧Hid (MsAt (lineE ps) (lastQ ps) B wb q Q (hdE H 5 p x0 q.ex) CU w #[.slice (some ⟨g,o,none⟩) n c,.int .u8 d] 134 (xs.take i) wr)) (fun iv _=>n - (intOf iv).toNat)
 case atStart=>exact⟨0,rfl,Nat.zero_le _,M6.out⟩
 case round =>
  obtain⟨i,rfl,hi,hrel⟩:=hrel
  by_cases hlt:i < n
  ·obtain⟨hv,cv,rf,ok,mn,mx,kd,h1,h2,h3,h4⟩:=hrel.out.st
   have hix:i < xs.length:=by rw[←HN.out];exact hlt
   obtain⟨g2,o2,n2,c2,ca,cb⟩:=HEL.out i hix wr hv cv rf ok mn mx kd h1 h2 h3.fr
   have CA:=zH ca
   have CB:=zH cb
   have HNXT:Hid (∀e w9 w10,ZF wr w9→WpPost B wb ({ q with hv:=hv,kind:=kd }.on cv rf ok mn mx) ((lastQ ps) (sqN (lastQ ps) Q (xs.take i)) (xs[i]'hix)) (hdE H 5 p x0 q.ex) (CU++sqE (lineE ps) (lastQ ps) Q (xs.take i)++(lineE ps) (sqN (lastQ ps) Q (xs.take i)) (xs[i]'hix)) w9 e w10→MsAt (lineE ps) (lastQ ps) B wb q Q (hdE H 5 p x0 q.ex) CU w #[.slice (some ⟨g,o,none⟩) n c,.int .u8 d] 134 (xs.take (i+1)) w10):=fun e w9 w10 f hp=>by
    rw[List.take_succ_eq_append_getElem hix]
    exact MsAt.next ((f.block _ (zG hrel.out.box).1 (fun h=>h)).trans hrel.out.box) (h3.trans (Ch.of f)) h4 hp
   obtain⟨q0,q1,_⟩:=lm_cells hrel.out.box
   clear ca cb h1 h2 h3 h4 hrel M6
   go_upto_region 18 with (go_at_call 144;(with_reducible refine CA.out.mono ?_);rintro e w8 ⟨rfl,f8⟩;have F8:=zH f8;clear f8)
   obtain⟨w9,hw9⟩:∃w9,w9=w8.alloc (.cells #[.int .u8 d,.slice (some ⟨g2,o2,none⟩) n2 c2] 121):=⟨_,rfl⟩
   have b9:=zN w8 (.cells #[.int .u8 d,.slice (some ⟨g2,o2,none⟩) n2 c2] 121)
   rw[←hw9] at b9 ⊢
   have F9:Hid (ZF wr w9):=by show Fr _ _ _;rw[hw9];exact F8.out.alloc _
   clear q0 q1
   obtain⟨r0,r1,_⟩:=lm_cells b9
   clear hw9 b9
   go_wp2_with (go_at_call 279;(with_reducible refine (CB.out w9 F9.out).mono ?_);rintro e w10 hp;have R10:=zH (HNXT.out _ _ _ F9.out hp);obtain⟨rfl,hp2⟩:=hp;clear hp2)
   go_roundw
   case rel=>exact⟨i+1,by go_num,by omega,R10.out⟩
   case measure=>simp[intOf];omega
  ·have hin:i=n:=by omega
   subst hin
   have HF:Hid (∃q',WtAt B wb q' (hdE H 5 p x0 q.ex) (CU++sqE (lineE ps) (lastQ ps) Q xs) wr∧Ch wb q q' w wr):=by
    obtain⟨hv,cv,rf,ok,mn,mx,kd,h1,h2,h3,h4⟩:=hrel.out.st
    have ht:xs.take i=xs:=List.take_of_length_le (by rw[←HN.out];exact Nat.le_refl _)
    rw[ht] at h1
    exact⟨_,h1,h3⟩
   clear hrel M6
   go_wp2_with fail
   go_ret
   obtain⟨q',h1,h2⟩:=HF.out
   exact⟨rfl,q',h1,h2⟩
theorem wk227{B wb:Nat}{q:Wt}{H C:List UInt8}{w:World}(h:WtAt B wb q H C w){d p z m x0:Nat}{ps Q:List Int}(hq:WqOk q d ps p z m x0)(hrf:RfOk q.rf Q)(hQ:QOk ps Q)(hH:H.length≤900){xs:List (List (List (Int × Int)))}(hxs:∀x∈xs,LsOk ps x){g o n c:Nat}(hE:RowsAt (RwE (LnE d) 2 d) (fun b=>b < B) 2 w (.slice (some ⟨g,o,none⟩) n c) (xs.map (·.map (·.map flp))))(hnx:n=xs.length)(hn0:0 < n)(hn4:n≤4096)(hC:(C++(Lib.uvarint n++sqE (polyE ps) (polyN ps) Q xs)).length≤10000000000000):
  Calls Tryz.prog 227 #[.pointer (some ⟨wb,0,none⟩),.agg #[.slice (some ⟨g,o,none⟩) n c,.int .u8 d]] w (KwPost B wb q (hdE H 6 p x0 q.ex) (C++(Lib.uvarint n++sqE (polyE ps) (polyN ps) Q xs)) w):=by
 have hsf:=st_fl
 rw[←List.append_assoc] at hC ⊢
 have hp0:0 < ps.length:=by have:=hq.wc.lo;omega
 have HRW:Hid (∀w1,Fr (Rw wb q) w w1→RowsAt (RwE (LnE d) 2 d) (fun b=>b < B) 2 w1 (.slice (some ⟨g,o,none⟩) n c) (xs.map (·.map (·.map flp)))):=fun w1 f=>hE.kept (RwE.kp (LnE.kp d) (by decide) d) (fun b hb hl=>f.block b hl (fun hr=>by have h9:=(h.own_ge b hr).1;have h8:b < B:=hb;omega))
 have hx0:0 < xs.length:=by omega
 have CE:Hid (∀w1,Fr (Rw wb q) w w1→Calls Tryz.prog 283 #[.agg #[.slice (some ⟨g,o,none⟩) n c,.int .u8 d]] w1 (Ac (.bool false) w1)):=fun w1 f=>by
  obtain⟨g2,o2,n2,c2,e1,e2,e3,hl,k0,k1⟩:=rw_at (HRW.out w1 f) (i:=0) (by rw[List.length_map];exact hx0)
  rw[Nat.zero_mul,Nat.add_zero] at k0 k1
  exact em283 d g o n c g2 o2 n2 c2 w1 hn0 e2 k0 k1
 have C281:Hid (∀w1 hv,WtAt B wb { q with kind:=6,hv:=hv } (hdE H 6 p x0 q.ex) C w1→Calls Tryz.prog 281 #[.pointer (some ⟨wb,0,none⟩),.int .u64 n] w1 (WrPost B wb { q with kind:=6,hv:=hv } (hdE H 6 p x0 q.ex) (C++Lib.uvarint n) w1)):=fun w1 hv h1=>uv281 h1 n (by omega) (by rw[List.length_append] at hC;omega)
 obtain⟨CU,hCU⟩:∃CU,CU=C++Lib.uvarint n:=⟨_,rfl⟩
 rw[←hCU] at hC C281 ⊢
 have HL:Hid (∀(i:Nat) (hi:i < xs.length),(CU++sqE (polyE ps) (polyN ps) Q (xs.take i)++(polyE ps) (sqN (polyN ps) Q (xs.take i)) xs[i]).length≤10000000000000):=fun i hi=>by
  have h1:=sqE_take (polyE ps) (polyN ps) Q xs (i+1)
  rw[List.take_succ_eq_append_getElem hi,(sqE_snoc (polyE ps) (polyN ps) (xs.take i) Q xs[i]).1,List.length_append] at h1
  rw[List.length_append] at hC
  rw[List.length_append,List.length_append]
  omega
 have HQK:Hid (∀i,QOk ps (sqN (polyN ps) Q (xs.take i))):=fun i=>sqN_ok2 _ _ (fun x hx Q hQ=>by unfold polyN;exact sqN_ok hp0 _ _ (hxs x (List.mem_of_mem_take hx)) hQ) hQ
 have HEL:Hid (∀(i:Nat) (hi:i < xs.length) w1 hv cv rf ok mn mx kd,WtAt B wb ({ q with hv:=hv,kind:=kd }.on cv rf ok mn mx) (hdE H 6 p x0 q.ex) (CU++sqE (polyE ps) (polyN ps) Q (xs.take i)) w1→RfOk rf (sqN (polyN ps) Q (xs.take i))→Fr (Rw wb q) w w1→∃g2 o2 n2 c2:Nat,Calls Tryz.prog 147 #[.agg #[.slice (some ⟨g,o,none⟩) n c,.int .u8 d],.int .i64 i] w1 (Ac (.agg #[.slice (some ⟨g2,o2,none⟩) n2 c2,.int .u8 d]) w1)∧∀w2,ZF w1 w2→Calls Tryz.prog 280 #[.pointer (some ⟨wb,0,none⟩),(.agg #[.slice (some ⟨g2,o2,none⟩) n2 c2,.int .u8 d])] w2 (WpPost B wb ({ q with hv:=hv,kind:=kd }.on cv rf ok mn mx) ((polyN ps) (sqN (polyN ps) Q (xs.take i)) xs[i]) (hdE H 6 p x0 q.ex) (CU++sqE (polyE ps) (polyN ps) Q (xs.take i)++(polyE ps) (sqN (polyN ps) Q (xs.take i)) xs[i]) w2)):=fun i hi w1 hv cv rf ok mn mx kd hw hr f=>by
  obtain⟨g2,o2,n2,c2,e1,e2,e3,hl,k0,k1⟩:=rw_at (HRW.out w1 f) (i:=i) (by rw[List.length_map];exact hi)
  rw[List.getElem_map] at hl e1
  refine⟨g2,o2,n2,c2,(ac147 d g o n c i d g2 o2 n2 c2 w1 (by omega) k0 k1).mono (fun e w' h=>⟨h.1,by rw[h.2];exact ((Fr.refl _ _).alloc _).alloc _⟩),fun w2 f2=>?_⟩
  exact wp280 (hw.keep f2) hq.d3 ⟨hq.wc.dims,hq.wc.lo,hq.wc.hi,hq.wc.bd,hq.wc.sc⟩ hq.pl hr (HQK.out i) (hxs xs[i] (List.getElem_mem hi)) (hl.kept (LnE.kp d) (fun b _ hl=>f2.block b hl (fun h=>h))) (by rw[e1,List.length_map]) e2 e3 (HL.out i hi)
 have C274:Hid (∀w1,WtAt B wb q H C w1→Calls Tryz.prog 274 #[.pointer (some ⟨wb,0,none⟩),.int .i64 6] w1 (WkPost B wb { q with kind:=6 } (H++[UInt8.ofNat (2*p*16+6)]) C w1)):=fun w1 h1=>tp274 h1 hq.p7 hq.px 6 (by decide) (by omega)
 have C277:Hid (∀w1 hv,WtAt B wb { q with kind:=6,hv:=hv } (H++[UInt8.ofNat (2*p*16+6)]) C w1→Calls Tryz.prog 277 #[.pointer (some ⟨wb,0,none⟩)] w1 (WhPost B wb { q with kind:=6,hv:=hv } (hdE H 6 p x0 q.ex) C w1)):=fun w1 hv h1=>ih277 h1 hq.z7 hq.m7 hq.pz hq.pm (by simp;omega) x0 hq.hx
 have CTY:=zH ac145
 have CNT:=zH ac146
 have H0:=zH h
 have c4:Hid (∀w1 hv,WtAt B wb { q with kind:=6,hv:=hv } (H++[UInt8.ofNat (2*p*16+6)]) C w1→w1.cell? ⟨wb,4,none⟩=some (.int .u8 d)):=fun w1 hv h1=>by rw[h1.c];show some (Value.int .u8 q.dm)=_;rw[hq.dm]
 have hdd:((d:Int) != (d:Int))=false:=by simp
 have HN:=zH hnx
 have HRF:=zH hrf
 have hI:IntKind.u64.wrap (n:Int)=(n:Int):=by simp[IntKind.wrap,IntKind.bits,IntKind.signed];omega
 have b0:=zN w (.cells #[.slice (some ⟨g,o,none⟩) n c,.int .u8 d] 139)
 obtain⟨w0,hw0⟩:∃w0,w0=w.alloc (.cells #[.slice (some ⟨g,o,none⟩) n c,.int .u8 d] 139):=⟨_,rfl⟩
 rw[←hw0] at b0
 have F0:Hid (ZF w w0):=by show Fr _ _ _;rw[hw0];exact (Fr.refl _ w).alloc _
 have B0:=zH b0
 have HW0:=zH hw0
 have NB:Hid (¬Rw wb q w.heap.size):=h.not (Nat.le_refl _)
 clear h hq hrf hQ hH hw0 b0 hE hnx hC hCU hxs hp0 HRW HL HQK hx0
 go_enter Tryz.func227,Tryz.ntmps227
 go_upto_region 1 with fail
 rw[←HW0.out]
 go_upto_region 2 with (go_at_call 274;(with_reducible refine (C274.out _ (H0.out.keep F0.out)).mono ?_);rintro e w1 ⟨rfl,hv,hp⟩)
 have CH01:Hid (Ch wb q { q with kind:=6,hv:=hv } w0 w1):=⟨hp.out.2.fr,hp.out.2.nx⟩
 have CH1:Hid (Ch wb q { q with kind:=6,hv:=hv } w w1):=(Ch.of F0.out).trans CH01.out
 have HA1:=zH hp.out.1
 have hb1:Hid (w1.heap[w.heap.size]?=some (.cells #[.slice (some ⟨g,o,none⟩) n c,.int .u8 d] 139 (0,0))):=(CH01.out.fr.block _ (zG B0.out).1 NB.out).trans B0.out
 have NB1:Hid (¬Rw wb { q with kind:=6,hv:=hv } w.heap.size):=CH01.out.not NB.out (zG B0.out).1
 clear hp
 obtain⟨q0,q1,_⟩:=lm_cells hb1.out
 go_upto_region 3 with (go_at_call 145;refine (CTY.out _ _ _ _ _ _).mono ?_;rintro e w2 ⟨rfl,hw2⟩;have F2:Hid (ZF w1 w2):=(by show Fr _ _ _;rw[hw2];exact (Fr.refl _ _).alloc _);clear hw2)
 have HA2:=zH (HA1.out.keep F2.out)
 have d4:=c4.out _ _ HA2.out
 have hb2:Hid (w2.heap[w.heap.size]?=some (.cells #[.slice (some ⟨g,o,none⟩) n c,.int .u8 d] 139 (0,0))):=(F2.out.block _ (zG hb1.out).1 (fun h=>h)).trans hb1.out
 clear q0 q1
 obtain⟨q0,q1,_⟩:=lm_cells hb2.out
 have CE2:=zH (CE.out w2 (CH1.out.trans (Ch.of F2.out)).fr)
 go_upto_region 8 with (go_at_call 283;(with_reducible refine CE2.out.mono ?_);rintro e w3 ⟨rfl,f3⟩;have F3:=zH f3;clear f3)
 have HA3:=zH (HA2.out.keep F3.out)
 have hb3:Hid (w3.heap[w.heap.size]?=some (.cells #[.slice (some ⟨g,o,none⟩) n c,.int .u8 d] 139 (0,0))):=(F3.out.block _ (zG hb2.out).1 (fun h=>h)).trans hb2.out
 go_upto_region 9 with (go_at_call 277;(with_reducible refine (C277.out _ _ HA3.out).mono ?_);rintro e w4 ⟨rfl,hv4,hp⟩)
 have CH4:Hid (Ch wb q { q with kind:=6,hv:=hv4 } w w4):=(CH1.out.trans (Ch.of (F2.out.trans F3.out))).trans hp.out.2
 have HA4:Hid (WtAt B wb { q with kind:=6,hv:=hv4 } (hdE H 6 p x0 q.ex) C w4):=hp.out.1
 have hb4:Hid (w4.heap[w.heap.size]?=some (.cells #[.slice (some ⟨g,o,none⟩) n c,.int .u8 d] 139 (0,0))):=(hp.out.2.fr.block _ (zG hb3.out).1 NB1.out).trans hb3.out
 have NB4:Hid (¬Rw wb { q with kind:=6,hv:=hv4 } w.heap.size):=hp.out.2.not NB1.out (zG hb3.out).1
 clear hp q0 q1 d4
 obtain⟨q0,q1,_⟩:=lm_cells hb4.out
 go_upto_region 10 with (go_at_call 146;refine (CNT.out _ _ _ _ _ _).mono ?_;rintro e w5 ⟨rfl,hw5⟩;have F5:Hid (ZF w4 w5):=(by show Fr _ _ _;rw[hw5];exact (Fr.refl _ _).alloc _);clear hw5)
 have HA5:=zH (HA4.out.keep F5.out)
 have hb5:Hid (w5.heap[w.heap.size]?=some (.cells #[.slice (some ⟨g,o,none⟩) n c,.int .u8 d] 139 (0,0))):=(F5.out.block _ (zG hb4.out).1 (fun h=>h)).trans hb4.out
 clear q0 q1
 go_upto_region 11 with (go_at_call 281;(with_reducible refine (C281.out _ _ HA5.out).mono ?_);rintro e w6 ⟨rfl,cv6,hp⟩)
 have M6:Hid (MsAt (polyE ps) (polyN ps) B wb q Q (hdE H 6 p x0 q.ex) CU w #[.slice (some ⟨g,o,none⟩) n c,.int .u8 d] 139 [] w6):=by
  refine⟨⟨hv4,cv6,q.rf,q.ok,q.mn,q.mx,6,?_,HRF.out,(CH4.out.trans (Ch.of F5.out)).trans hp.out.2,hp.out.2.not NB4.out (zG hb5.out).1⟩,(hp.out.2.fr.block _ (zG hb5.out).1 NB4.out).trans hb5.out⟩
  rw[sqE,List.append_nil]
  exact hp.out.1
 have C282:Hid (Calls Tryz.prog 282 #[.pointer (some ⟨wb,0,none⟩),.int .i64 n] w6 fun e w'=>e=.returned .nilIface∧w6=w'):=id282 hp.out.1 n
 clear hp
 go_wp2_with (go_at_call 282;(with_reducible refine C282.out.mono ?_);rintro e w' ⟨rfl,rfl⟩)
 go_loopw [8] (fun iv wr=>∃i:Nat,iv=.int .i64 (i:Int)∧i≤n∧Hid (MsAt (polyE ps) (polyN ps) B wb q Q (hdE H 6 p x0 q.ex) CU w #[.slice (some ⟨g,o,none⟩) n c,.int .u8 d] 139 (xs.take i) wr)) (fun iv _=>n - (intOf iv).toNat)
 case atStart=>exact⟨0,rfl,Nat.zero_le _,M6.out⟩
 case round =>
  obtain⟨i,rfl,hi,hrel⟩:=hrel
  by_cases hlt:i < n
  ·obtain⟨hv,cv,rf,ok,mn,mx,kd,h1,h2,h3,h4⟩:=hrel.out.st
   have hix:i < xs.length:=by rw[←HN.out];exact hlt
   obtain⟨g2,o2,n2,c2,ca,cb⟩:=HEL.out i hix wr hv cv rf ok mn mx kd h1 h2 h3.fr
   have CA:=zH ca
   have CB:=zH cb
   have HNXT:Hid (∀e w9 w10,ZF wr w9→WpPost B wb ({ q with hv:=hv,kind:=kd }.on cv rf ok mn mx) ((polyN ps) (sqN (polyN ps) Q (xs.take i)) (xs[i]'hix)) (hdE H 6 p x0 q.ex) (CU++sqE (polyE ps) (polyN ps) Q (xs.take i)++(polyE ps) (sqN (polyN ps) Q (xs.take i)) (xs[i]'hix)) w9 e w10→MsAt (polyE ps) (polyN ps) B wb q Q (hdE H 6 p x0 q.ex) CU w #[.slice (some ⟨g,o,none⟩) n c,.int .u8 d] 139 (xs.take (i+1)) w10):=fun e w9 w10 f hp=>by
    rw[List.take_succ_eq_append_getElem hix]
    exact MsAt.next ((f.block _ (zG hrel.out.box).1 (fun h=>h)).trans hrel.out.box) (h3.trans (Ch.of f)) h4 hp
   obtain⟨q0,q1,_⟩:=lm_cells hrel.out.box
   clear ca cb h1 h2 h3 h4 hrel M6
   go_upto_region 18 with (go_at_call 147;(with_reducible refine CA.out.mono ?_);rintro e w8 ⟨rfl,f8⟩;have F8:=zH f8;clear f8)
   obtain⟨w9,hw9⟩:∃w9,w9=w8.alloc (.cells #[.slice (some ⟨g2,o2,none⟩) n2 c2,.int .u8 d] 126):=⟨_,rfl⟩
   have b9:=zN w8 (.cells #[.slice (some ⟨g2,o2,none⟩) n2 c2,.int .u8 d] 126)
   rw[←hw9] at b9 ⊢
   have F9:Hid (ZF wr w9):=by show Fr _ _ _;rw[hw9];exact F8.out.alloc _
   clear q0 q1
   obtain⟨r0,r1,_⟩:=lm_cells b9
   clear hw9 b9
   go_wp2_with (go_at_call 280;(with_reducible refine (CB.out w9 F9.out).mono ?_);rintro e w10 hp;have R10:=zH (HNXT.out _ _ _ F9.out hp);obtain⟨rfl,hp2⟩:=hp;clear hp2)
   go_roundw
   case rel=>exact⟨i+1,by go_num,by omega,R10.out⟩
   case measure=>simp[intOf];omega
  ·have hin:i=n:=by omega
   subst hin
   have HF:Hid (∃q',WtAt B wb q' (hdE H 6 p x0 q.ex) (CU++sqE (polyE ps) (polyN ps) Q xs) wr∧Ch wb q q' w wr):=by
    obtain⟨hv,cv,rf,ok,mn,mx,kd,h1,h2,h3,h4⟩:=hrel.out.st
    have ht:xs.take i=xs:=List.take_of_length_le (by rw[←HN.out];exact Nat.le_refl _)
    rw[ht] at h1
    exact⟨_,h1,h3⟩
   clear hrel M6
   go_wp2_with fail
   go_ret
   obtain⟨q',h1,h2⟩:=HF.out
   exact⟨rfl,q',h1,h2⟩
end Go.Proofs.YtnjjgbcmjnfijaaGreatDoor
