/- The package's writer of tiny bytes: rings. No condition. -/
import Derived.Test.YtnjjgbcmjnfijaaGreatDoorWj
namespace Go.Proofs.YtnjjgbcmjnfijaaGreatDoor
set_option maxRecDepth 100000
set_option maxHeartbeats 1000000
open Go.RowKit
theorem sqE_app{α:Type}(E:List Int→α→List UInt8)(N:List Int→α→List Int):∀(xs ys:List α) (Q:List Int),∃r,sqE E N Q (xs++ys)=sqE E N Q xs++r
 | [],ys,Q=>⟨sqE E N Q ys,by simp[sqE]⟩
 | x :: xs,ys,Q=>by
  obtain⟨r,hr⟩:=sqE_app E N xs ys (N Q x)
  exact⟨r,by rw[List.cons_append,sqE,sqE,hr,List.append_assoc]⟩
theorem sqE_take{α:Type}(E:List Int→α→List UInt8)(N:List Int→α→List Int)(Q:List Int)(xs:List α)(j:Nat):(sqE E N Q (xs.take j)).length≤(sqE E N Q xs).length:=by
 obtain⟨r,hr⟩:=sqE_app E N (xs.take j) (xs.drop j) Q
 rw[List.take_append_drop] at hr
 rw[hr,List.length_append]
 omega
def LsOk (ps:List Int) (xs:List (List (Int × Int))):Prop:=∀x∈xs,(∃n,0 < n∧n≤5000∧WR ps n x)∧∀y∈x,y.2.natAbs < 35184372088832
theorem lastQ_ok{ps Q:List Int}{n:Nat}{xs:List (Int × Int)}(h:WR ps n xs)(hp:0 < ps.length)(hQ:QOk ps Q):QOk ps (lastQ ps Q xs):=(row_enc h hp hQ []).2
theorem sqN_ok{ps:List Int}(hp:0 < ps.length):∀(xs:List (List (Int × Int))) (Q:List Int),LsOk ps xs→QOk ps Q→QOk ps (sqN (lastQ ps) Q xs)
 | [],_,_,hQ=>hQ
 | x :: xs,Q,h,hQ=>by
  obtain⟨n,_,_,hw⟩:=(h x (by simp)).1
  exact sqN_ok hp xs _ (fun y hy=>h y (by simp[hy])) (lastQ_ok hw hp hQ)
theorem WtAt.not{B wb:Nat}{q:Wt}{H C:List UInt8}{w:World}(h:WtAt B wb q H C w){b:Nat}(hb:w.heap.size≤b):¬Rw wb q b:=fun hr=>by
 have:=(h.own_ge b hr).2
 omega
theorem Ch.not{wb:Nat}{q q':Wt}{w w':World}(c:Ch wb q q' w w'){b:Nat}(hn:¬Rw wb q b)(hb:b < w.heap.size):¬Rw wb q' b:=fun hr=>(c.nx b hr).elim hn (fun h=>by omega)
structure RsAt (B wb:Nat) (q:Wt) (ps Q:List Int) (H C:List UInt8) (w:World) (tb:Nat) (BX:Array Value) (xs:List (List (Int × Int))) (wr:World):Prop where
 st:∃cv rf ok mn mx,WtAt B wb (q.on cv rf ok mn mx) H (C++sqE (lineE ps) (lastQ ps) Q xs) wr∧RfOk rf (sqN (lastQ ps) Q xs)∧Ch wb q (q.on cv rf ok mn mx) w wr∧¬Rw wb (q.on cv rf ok mn mx) w.heap.size∧¬Rw wb (q.on cv rf ok mn mx) tb
 box:wr.heap[w.heap.size]?=some (.cells BX 126 (0,0))
 tmp:SomeAt tb 121 2 wr
 lt:w.heap.size < tb
theorem RsAt.next{B wb:Nat}{q:Wt}{ps Q:List Int}{H C:List UInt8}{w:World}{tb:Nat}{BX:Array Value}{xs:List (List (Int × Int))}{x:List (Int × Int)}{wr w1 w2:World}{cv:Value}{rf:Nat→Int}{ok:Bool}{mn mx:Nat→Int}{e:Ending}(hbox:wr.heap[w.heap.size]?=some (.cells BX 126 (0,0)))(hlt:w.heap.size < tb)(hch:Ch wb q (q.on cv rf ok mn mx) w wr)(hn1:¬Rw wb (q.on cv rf ok mn mx) w.heap.size)(hn2:¬Rw wb (q.on cv rf ok mn mx) tb)
  (f:Fr (fun b=>b=tb) wr w1) (ht:SomeAt tb 121 2 w1) (hp:WpPost B wb (q.on cv rf ok mn mx) (lastQ ps (sqN (lastQ ps) Q xs) x) H (C++sqE (lineE ps) (lastQ ps) Q xs++lineE ps (sqN (lastQ ps) Q xs) x) w1 e w2):RsAt B wb q ps Q H C w tb BX (xs++[x]) w2:=by
 obtain⟨_,cv2,rf2,ok2,mn2,mx2,hp⟩:=hp
 obtain⟨h1,h2,h3⟩:=hp.out
 obtain⟨s1,s2⟩:=sqE_snoc (lineE ps) (lastQ ps) xs Q x
 have b1:=(f.block _ (zG hbox).1 (by omega)).trans hbox
 have l1:=(zG b1).1
 have l2:=(zG ht.choose_spec.2).1
 refine⟨⟨cv2,rf2,ok2,mn2,mx2,?_,by rw[s2];exact h2,⟨?_,?_⟩,h3.not hn1 l1,h3.not hn2 l2⟩,(h3.fr.block _ l1 hn1).trans b1,ht.keep h3.fr hn2,hlt⟩
 ·rw[s1,←List.append_assoc];exact h1
 ·refine (hch.fr.transNew f (fun b e=>.inl (by omega))).transNew h3.fr (fun b e=>(hch.nx b e).symm)
 ·intro b e
  rcases h3.nx b e with e|e
  ·exact hch.nx b e
  ·exact .inr (Nat.le_trans (Nat.le_trans hch.fr.size f.size) e)
theorem RsAt.run{B wb:Nat}{q:Wt}{ps Q:List Int}{H C:List UInt8}{w:World}{tb:Nat}{BX:Array Value}{xs:List (List (Int × Int))}{wr wy:World}(h:RsAt B wb q ps Q H C w tb BX xs wr)(f:ZF wr wy):RsAt B wb q ps Q H C w tb BX xs wy:=by
 obtain⟨⟨cv,rf,ok,mn,mx,h1,h2,h3,h4,h5⟩,hb,ht,hl⟩:=h
 exact⟨⟨cv,rf,ok,mn,mx,h1.keep f,h2,h3.trans (Ch.of f),h4,h5⟩,(f.block _ (zG hb).1 (fun h=>h)).trans hb,ht.keep f (fun h=>h),hl⟩
theorem wp280{B wb:Nat}{q:Wt}{H C:List UInt8}{w:World}(h:WtAt B wb q H C w){d:Nat}(hd:d≤3){ps Q:List Int}(ho:WcOk q ps)(hpl:ps.length=wd d)(hrf:RfOk q.rf Q)(hQ:QOk ps Q){xs:List (List (Int × Int))}(hxs:LsOk ps xs){g o n c:Nat}(hE:RowsAt (LnE d) (fun b=>b < B) 2 w (.slice (some ⟨g,o,none⟩) n c) (xs.map (·.map flp)))(hnx:n=xs.length)(hn0:0 < n)(hn4:n≤4096)(hC:(C++polyE ps Q xs).length≤10000000000000):
  Calls Tryz.prog 280 #[.pointer (some ⟨wb,0,none⟩),.agg #[.slice (some ⟨g,o,none⟩) n c,.int .u8 d]] w (WpPost B wb q (polyN ps Q xs) H (C++polyE ps Q xs) w):=by
 unfold polyE at hC ⊢
 unfold polyN
 rw[←hnx,←List.append_assoc] at hC ⊢
 have hp0:0 < ps.length:=by have:=ho.lo;omega
 have C332:Hid (∀w1,Calls Tryz.prog 332 #[.agg #[.slice (some ⟨g,o,none⟩) n c,.int .u8 d]] w1 (Ac (.int .i64 n) w1)):=fun w1=>nr332 d g o n c w1 hn0 (by omega)
 have C334:Hid (∀w1,Calls Tryz.prog 334 #[.agg #[.slice (some ⟨g,o,none⟩) n c,.int .u8 d]] w1 (Ac (.int .i64 (n - 1:Nat)) w1)):=fun w1=>ni334 d g o n c w1 hn0 (by omega)
 have HRW:Hid (∀w1,Fr (Rw wb q) w w1→RowsAt (LnE d) (fun b=>b < B) 2 w1 (.slice (some ⟨g,o,none⟩) n c) (xs.map (·.map flp))):=fun w1 f=>hE.kept (LnE.kp d) (fun b hb hl=>f.block b hl (fun hr=>by have:=(h.own_ge b hr).1;omega))
 have C281:Hid (∀w1,WtAt B wb q H C w1→Calls Tryz.prog 281 #[.pointer (some ⟨wb,0,none⟩),.int .u64 n] w1 (WrPost B wb q H (C++Lib.uvarint n) w1)):=fun w1 h1=>uv281 h1 n (by omega) (by rw[List.length_append] at hC;omega)
 obtain⟨CU,hCU⟩:∃CU,CU=C++Lib.uvarint n:=⟨_,rfl⟩
 rw[←hCU] at hC C281 ⊢
 have CR:Hid (∀(i:Nat) (hi:i < xs.length) w1 cv rf ok mn mx g2 o2 n2 c2,WtAt B wb (q.on cv rf ok mn mx) H (CU++sqE (lineE ps) (lastQ ps) Q (xs.take i)) w1→RfOk rf (sqN (lastQ ps) Q (xs.take i))→LnE d (fun b=>b < B) w1 [.int .u8 d,.slice (some ⟨g2,o2,none⟩) n2 c2] (xs[i].map flp)→Calls Tryz.prog 333 #[.pointer (some ⟨wb,0,none⟩),.agg #[.int .u8 d,.slice (some ⟨g2,o2,none⟩) n2 c2]] w1 (WpPost B wb (q.on cv rf ok mn mx) (lastQ ps (sqN (lastQ ps) Q (xs.take i)) xs[i]) H (CU++sqE (lineE ps) (lastQ ps) Q (xs.take i)++lineE ps (sqN (lastQ ps) Q (xs.take i)) xs[i]) w1)):=fun i hi w1 cv rf ok mn mx g2 o2 n2 c2 hw hr hl=>by
  obtain⟨⟨m,m0,m1,hw2⟩,hs⟩:=hxs xs[i] (List.getElem_mem hi)
  refine wr333 hw hd (ho.on cv rf ok mn mx) hpl hr (sqN_ok hp0 _ _ (fun y hy=>hxs y (List.mem_of_mem_take hy)) hQ) m0 m1 hw2 hs hl ?_
  have h1:=sqE_take (lineE ps) (lastQ ps) Q xs (i+1)
  rw[List.take_succ_eq_append_getElem hi,(sqE_snoc (lineE ps) (lastQ ps) (xs.take i) Q xs[i]).1,List.length_append] at h1
  rw[List.length_append] at hC
  rw[List.length_append,List.length_append]
  omega
 have H0:=zH h
 have HN:=zH hnx
 have HRF:=zH hrf
 have hI:IntKind.u64.wrap (n:Int)=(n:Int):=by simp[IntKind.wrap,IntKind.bits,IntKind.signed];omega
 have hne:((n:Int) == 0)=false:=by simp;omega
 clear h hd ho hpl hrf hQ hxs hE hnx hC hCU hp0
 go_enter Tryz.func280,Tryz.ntmps280
 go_upto_region 1 with fail
 have b0:=zN w (.cells #[.slice (some ⟨g,o,none⟩) n c,.int .u8 d] 126)
 obtain⟨w0,hw0⟩:∃w0,w0=w.alloc (.cells #[.slice (some ⟨g,o,none⟩) n c,.int .u8 d] 126):=⟨_,rfl⟩
 rw[←hw0] at b0 ⊢
 have F0:Hid (ZF w w0):=by show Fr _ _ _;rw[hw0];exact (Fr.refl _ w).alloc _
 have B0:=zH b0
 obtain⟨q0,q1,_⟩:=lm_cells b0
 clear hw0 b0
 go_upto_region 2 with (first|(go_at_call 332;(with_reducible refine (C332.out _).mono ?_);rintro e w1 ⟨rfl,f⟩;have F1:=zH (F0.out.trans f);have G1:=zH f;clear f)|(go_at_call 281;(with_reducible refine (C281.out _ (H0.out.keep F1.out)).mono ?_);rintro e w2 ⟨rfl,cv2,hp⟩))
 have hwl:w.heap.size < w0.heap.size:=(zG B0.out).1
 have hB2:Hid (w2.heap[w.heap.size]?=some (.cells #[.slice (some ⟨g,o,none⟩) n c,.int .u8 d] 126 (0,0))):=by
  show _=_
  rw[hp.out.2.fr.block _ (by have:=G1.out.size;omega) ((H0.out).not (Nat.le_refl _))]
  exact (G1.out.block _ hwl (fun h=>h)).trans B0.out
 have CH2:Hid (Ch wb q { q with cv:=cv2 } w w2):=(Ch.of F1.out).trans hp.out.2
 have HW2:=zH hp.out.1
 have NB2:Hid (¬Rw wb { q with cv:=cv2 } w.heap.size):=hp.out.2.not ((H0.out).not (Nat.le_refl _)) (by have:=G1.out.size;omega)
 clear hp
 obtain⟨q0,q1,_⟩:=lm_cells hB2.out
 go_upto_region 3 with (go_at_call 332;(with_reducible refine (C332.out _).mono ?_);rintro e w3 ⟨rfl,f⟩;have F3:=zH f;clear f)
 have hB3:Hid (w3.heap[w.heap.size]?=some (.cells #[.slice (some ⟨g,o,none⟩) n c,.int .u8 d] 126 (0,0))):=(F3.out.block _ (zG hB2.out).1 (fun h=>h)).trans hB2.out
 clear q0 q1
 obtain⟨q0,q1,_⟩:=lm_cells hB3.out
 have hx0:0 < xs.length:=by rw[←HN.out];exact hn0
 have CH3:Hid (Ch wb q { q with cv:=cv2 } w w3):=CH2.out.trans (Ch.of F3.out)
 obtain⟨g2,o2,n2,c2,hE2,k0,k1⟩:=ln_at (HRW.out w3 CH3.out.fr) (i:=0) (by rw[List.length_map];exact hx0)
 rw[Nat.zero_mul,Nat.add_zero] at k0 k1
 rw[List.getElem_map] at hE2
 have C271:Hid (Calls Tryz.prog 271 #[.agg #[.slice (some ⟨g,o,none⟩) n c,.int .u8 d]] w3 (Ac (.agg #[.int .u8 d,.slice (some ⟨g2,o2,none⟩) n2 c2]) w3)):=er271 d g o n c d g2 o2 n2 c2 w3 hn0 k0 k1
 have HE2:=zH hE2
 clear hE2 k0 k1
 go_upto_region 4 with (go_at_call 271;(with_reducible refine C271.out.mono ?_);rintro e w4 ⟨rfl,f⟩;have F4:=zH f;clear f)
 obtain⟨tb,htb⟩:∃tb,tb=w4.heap.size:=⟨_,rfl⟩
 have b5:=zN w4 (.cells #[.int .u8 d,.slice (some ⟨g2,o2,none⟩) n2 c2] 121)
 obtain⟨w5,hw5⟩:∃w5,w5=w4.alloc (.cells #[.int .u8 d,.slice (some ⟨g2,o2,none⟩) n2 c2] 121):=⟨_,rfl⟩
 rw[←hw5,←htb] at b5
 rw[←hw5,←htb]
 have F35:Hid (ZF w3 w5):=by show Fr _ _ _;rw[hw5];exact F4.out.alloc _
 have B5:=zH b5
 have CH5:Hid (Ch wb q { q with cv:=cv2 } w w5):=CH3.out.trans (Ch.of F35.out)
 have hB5:Hid (w5.heap[w.heap.size]?=some (.cells #[.slice (some ⟨g,o,none⟩) n c,.int .u8 d] 126 (0,0))):=(F35.out.block _ (zG hB3.out).1 (fun h=>h)).trans hB3.out
 have HW5:Hid (WtAt B wb { q with cv:=cv2 } H CU w5):=HW2.out.keep (F3.out.trans F35.out)
 have htw:Hid (w.heap.size < tb):=by show _ < _;rw[htb];have h1:=(zG hB3.out).1;have h2:=F4.out.size;omega
 have NT5:Hid (¬Rw wb { q with cv:=cv2 } tb):=(HW2.out.keep (F3.out.trans F4.out)).not (by rw[htb];exact Nat.le_refl _)
 have NB5:=NB2
 have C0:Hid (Calls Tryz.prog 333 #[.pointer (some ⟨wb,0,none⟩),.agg #[.int .u8 d,.slice (some ⟨g2,o2,none⟩) n2 c2]] w5 (WpPost B wb { q with cv:=cv2 } (lastQ ps (sqN (lastQ ps) Q []) (xs[0]'hx0)) H (CU++sqE (lineE ps) (lastQ ps) Q []++lineE ps (sqN (lastQ ps) Q []) (xs[0]'hx0)) w5)):=CR.out 0 hx0 w5 cv2 q.rf q.ok q.mn q.mx g2 o2 n2 c2 (by rw[List.take_zero,sqE,List.append_nil];exact HW5.out) HRF.out ((LnE.kp d).kept (fun b _ hl=>F35.out.block b hl (fun h=>h)) HE2.out)
 have HS1:Hid (∀e w6,WpPost B wb { q with cv:=cv2 } (lastQ ps (sqN (lastQ ps) Q []) (xs[0]'hx0)) H (CU++sqE (lineE ps) (lastQ ps) Q []++lineE ps (sqN (lastQ ps) Q []) (xs[0]'hx0)) w5 e w6→RsAt B wb q ps Q H CU w tb #[.slice (some ⟨g,o,none⟩) n c,.int .u8 d] (xs.take 1) w6):=fun e w6 hp=>by
  have h1:=RsAt.next (q:=q) (cv:=cv2) (rf:=q.rf) (ok:=q.ok) (mn:=q.mn) (mx:=q.mx) hB5.out htw.out CH5.out NB5.out NT5.out (Fr.refl _ w5) ⟨_,rfl,B5.out⟩ hp
  rw[List.nil_append] at h1
  rw[show xs.take 1=[xs[0]'hx0] by rw[List.take_succ_eq_append_getElem hx0];rfl]
  exact h1
 obtain⟨r0,r1,_⟩:=lm_cells b5
 clear hw5 b5 htb q0 q1
 go_upto_region 5 with (go_at_call 333;(with_reducible refine C0.out.mono ?_);rintro e w6 hp;have R6:=zH (HS1.out _ _ hp);obtain⟨rfl,hp2⟩:=hp;clear hp2)
 obtain⟨q0,q1,_⟩:=lm_cells R6.out.box
 go_wp2_with (go_at_call 334;(with_reducible refine (C334.out _).mono ?_);rintro e w7 ⟨rfl,f⟩;have R7:=zH (R6.out.run f);clear f)
 obtain⟨k,hk⟩:∃k,k=n - 1:=⟨_,rfl⟩
 have hkn:n=k+1:=by omega
 rw[←hk]
 have hk4:k≤4096:=by omega
 have HKN:=zH hkn
 clear q0 q1 hk C334 C271 C0 HS1 HE2 hkn r0 r1
 go_loopw [6] (fun iv wr=>∃i:Nat,iv=.int .i64 (i:Int)∧i≤k∧Hid (RsAt B wb q ps Q H CU w tb #[.slice (some ⟨g,o,none⟩) n c,.int .u8 d] (xs.take (i+1)) wr)) (fun iv _=>k - (intOf iv).toNat)
 case atStart=>exact⟨0,rfl,Nat.zero_le _,R7.out⟩
 case round =>
  obtain⟨i,rfl,hi,hrel⟩:=hrel
  by_cases hlt:i < k
  ·obtain⟨cv,rf,ok,mn,mx,h1,h2,h3,h4,h5⟩:=hrel.out.st
   have hix:i+1 < xs.length:=by rw[←HN.out,HKN.out];omega
   obtain⟨g2,o2,n2,c2,hE2,k0,k1⟩:=ln_at (HRW.out wr h3.fr) (i:=i+1) (by rw[List.length_map];exact hix)
   rw[List.getElem_map] at hE2
   have C335:Hid (Calls Tryz.prog 335 #[.agg #[.slice (some ⟨g,o,none⟩) n c,.int .u8 d],.int .i64 i] wr (Ac (.agg #[.int .u8 d,.slice (some ⟨g2,o2,none⟩) n2 c2]) wr)):=ir335 d g o n c i d g2 o2 n2 c2 wr (by rw[HKN.out];omega) (by omega) k0 k1
   have HS:=zH (⟨h1,h2,h3,h4,h5⟩:_∧_∧_∧_∧_)
   have HE:=zH hE2
   have HBX:=zH hrel.out.box
   have HTM:=zH hrel.out.tmp
   have HLT:=zH hrel.out.lt
   obtain⟨q0,q1,_⟩:=lm_cells hrel.out.box
   clear h1 h2 h3 h4 h5 hE2 k0 k1 hrel R7 R6
   obtain⟨W2,hW2⟩:∃W2:World→World,W2=fun w8=>(w8.setCell ⟨tb,0,none⟩ (.int .u8 d)).setCell ⟨tb,1,none⟩ (.slice (some ⟨g2,o2,none⟩) n2 c2):=⟨_,rfl⟩
   have HW2':=zH hW2
   clear hW2
   go_upto_region 10 with (go_at_call 335;(with_reducible refine C335.out.mono ?_);rintro e w8 ⟨rfl,f⟩;have F8:=zH f;clear f;have T8:=zH (HTM.out.keep F8.out (fun h=>h));obtain⟨v0,t0⟩:=T8.out.cell 0 (by decide);obtain⟨v1,t1⟩:=T8.out.cell 1 (by decide);have tf:=T8.out.fz)
   obtain⟨w9,hw9⟩:∃w9,w9=(w8.setCell ⟨tb,0,none⟩ (.int .u8 d)).setCell ⟨tb,1,none⟩ (.slice (some ⟨g2,o2,none⟩) n2 c2):=⟨_,rfl⟩
   have F9:Hid (Fr (fun b=>b=tb) wr w9):=by
    show Fr _ _ _
    rw[hw9]
    exact (F8.out.weak (fun _ h=>h.elim)).trans (((Fr.refl _ w8).setR _).setR _)
   have T9:Hid (SomeAt tb 121 2 w9):=by show SomeAt _ _ _ _;rw[hw9];exact (T8.out.set 0 _).set 1 _
   have ne01:(⟨tb,0,none⟩:Addr)≠⟨tb,1,none⟩:=by simp
   have s0:w9.cell? ⟨tb,0,none⟩=some (.int .u8 d):=by
    rw[hw9,World.cell?_setCell_other _ _ _ _ ne01.symm]
    exact World.cell?_setCell_same _ _ _ (by rw[t0])
   have s1:w9.cell? ⟨tb,1,none⟩=some (.slice (some ⟨g2,o2,none⟩) n2 c2):=by
    rw[hw9]
    refine World.cell?_setCell_same (u:=v1) _ _ _ ?_
    rw[World.cell?_setCell_other _ _ _ _ ne01,t1]
   rw[←hw9]
   clear hw9 t0 t1 tf T8 q0 q1
   have C1:Hid (Calls Tryz.prog 333 #[.pointer (some ⟨wb,0,none⟩),.agg #[.int .u8 d,.slice (some ⟨g2,o2,none⟩) n2 c2]] w9 (WpPost B wb (q.on cv rf ok mn mx) (lastQ ps (sqN (lastQ ps) Q (xs.take (i+1))) (xs[i+1]'hix)) H (CU++sqE (lineE ps) (lastQ ps) Q (xs.take (i+1))++lineE ps (sqN (lastQ ps) Q (xs.take (i+1))) (xs[i+1]'hix)) w9)):=by
    obtain⟨h1,h2,h3,h4,h5⟩:=HS.out
    have hle:=(zG HTM.out.choose_spec.2).1
    refine CR.out (i+1) hix w9 cv rf ok mn mx g2 o2 n2 c2 (h1.fr F9.out (fun e=>h5 (.inl e.symm)) (fun b hb e=>h5 (.inr (.inr (by rw[←e];exact hb.symm)))) (fun b hb e=>h5 (.inr (.inl (by rw[←e];exact hb.symm))))) h2 ((LnE.kp d).kept (fun b hb hl=>F9.out.block b hl (fun e=>?_)) HE.out)
    have h9:=HLT.out
    have h8:=(H0.out).le
    have h7:=(H0.out).lt
    have h6:b < B:=hb
    omega
   have HNXT:Hid (∀e w10,WpPost B wb (q.on cv rf ok mn mx) (lastQ ps (sqN (lastQ ps) Q (xs.take (i+1))) (xs[i+1]'hix)) H (CU++sqE (lineE ps) (lastQ ps) Q (xs.take (i+1))++lineE ps (sqN (lastQ ps) Q (xs.take (i+1))) (xs[i+1]'hix)) w9 e w10→RsAt B wb q ps Q H CU w tb #[.slice (some ⟨g,o,none⟩) n c,.int .u8 d] (xs.take (i+1+1)) w10):=fun e w10 hp=>by
    obtain⟨h1,h2,h3,h4,h5⟩:=HS.out
    rw[List.take_succ_eq_append_getElem hix]
    exact RsAt.next HBX.out HLT.out h3 h4 h5 F9.out T9.out hp
   go_wp2_with (go_at_call 333;(with_reducible refine C1.out.mono ?_);rintro e w10 hp;have R10:=zH (HNXT.out _ _ hp);obtain⟨rfl,hp2⟩:=hp;clear hp2)
   go_roundw
   case rel=>exact⟨i+1,by go_num,by omega,R10.out⟩
   case measure=>simp[intOf];omega
  ·have hik:i=k:=by omega
   subst hik
   have HF:Hid (WpPost B wb q (sqN (lastQ ps) Q xs) H (CU++sqE (lineE ps) (lastQ ps) Q xs) w (.returned (.tuple #[])) wr):=by
    obtain⟨cv,rf,ok,mn,mx,h1,h2,h3,h4,h5⟩:=hrel.out.st
    have ht:xs.take (i+1)=xs:=List.take_of_length_le (by rw[←HN.out,HKN.out];exact Nat.le_refl _)
    rw[ht] at h1 h2
    exact⟨rfl,cv,rf,ok,mn,mx,h1,h2,h3⟩
   clear hrel R6 R7
   go_wp2_with fail
   go_end0
   exact HF.out
open Go.RowKit
structure WqOk (q:Wt) (d:Nat) (ps:List Int) (p z m x:Nat):Prop where
 wc:WcOk q ps
 pl:ps.length=wd d
 dm:q.dm=d
 d3:d≤3
 px:q.px=(p:Int)
 p7:p≤7
 pz:q.pz=(z:Int)
 z7:z≤7
 pm:q.pm=(m:Int)
 m7:m≤7
 hx:x=(if q.hz=true then 1+4*z else 0)+(if q.hm=true then 2+32*m else 0)
def hdE (H:List UInt8) (k p x:Nat) (ex:Bool):List UInt8:=H++[UInt8.ofNat (2*p*16+k)]++[UInt8.ofNat (if ex=true then 8 else 0)]++(if ex=true then [UInt8.ofNat x] else [])
def KwPost (B wb:Nat) (q:Wt) (H C:List UInt8) (w:World) (e:Ending) (w':World):Prop :=
 e=.returned .nilIface∧∃q',Hid (WtAt B wb q' H C w'∧Ch wb q q' w w')
theorem wk222{B wb:Nat}{q:Wt}{H C:List UInt8}{w:World}(h:WtAt B wb q H C w){d p z m x0:Nat}{ps Q:List Int}(hq:WqOk q d ps p z m x0)(hrf:RfOk q.rf Q)(hQ:QOk ps Q)(hH:H.length≤900){xs:List (Int × Int)}(hx:WR ps 1 xs)(hsm:∀x∈xs,x.2.natAbs < 35184372088832){x y u v:Nat}(hE:xs.map flp=numsOf d (x,y,u,v))(hC:(C++rowE ps Q xs).length≤10000000000000):
  Calls Tryz.prog 222 #[.pointer (some ⟨wb,0,none⟩),.agg #[.float .f64 x,.float .f64 y,.float .f64 u,.float .f64 v,.int .u8 d,.bool true]] w (KwPost B wb q (hdE H 1 p x0 q.ex) (C++rowE ps Q xs) w):=by
 have hsf:=st_fl
 have CF:Hid (∀w1 hv,WtAt B wb { q with kind:=1,hv:=hv } (hdE H 1 p x0 q.ex) C w1→Fr (Rw wb q) w w1→Calls Tryz.prog 278 #[.pointer (some ⟨wb,0,none⟩),.agg #[.float .f64 x,.float .f64 y,.float .f64 u,.float .f64 v,.int .u8 d,.bool true]] w1 (WpPost B wb { q with kind:=1,hv:=hv } (lastQ ps Q xs) (hdE H 1 p x0 q.ex) (C++rowE ps Q xs) w1)):=fun w1 hv h1 _=>wc278 h1 hq.d3 ⟨hq.wc.dims,hq.wc.lo,hq.wc.hi,hq.wc.bd,hq.wc.sc⟩ hrf hQ hx hsm hE hC
 have CE:Hid (∀w1,Calls Tryz.prog 275 #[.agg #[.float .f64 x,.float .f64 y,.float .f64 u,.float .f64 v,.int .u8 d,.bool true]] w1 (Ac (.bool false) w1)):=fun w1=>em275 x y u v d w1
 clear hx hsm hE hC
 have C274:Hid (∀w1,WtAt B wb q H C w1→Calls Tryz.prog 274 #[.pointer (some ⟨wb,0,none⟩),.int .i64 1] w1 (WkPost B wb { q with kind:=1 } (H++[UInt8.ofNat (2*p*16+1)]) C w1)):=fun w1 h1=>tp274 h1 hq.p7 hq.px 1 (by decide) (by omega)
 have C277:Hid (∀w1 hv,WtAt B wb { q with kind:=1,hv:=hv } (H++[UInt8.ofNat (2*p*16+1)]) C w1→Calls Tryz.prog 277 #[.pointer (some ⟨wb,0,none⟩)] w1 (WhPost B wb { q with kind:=1,hv:=hv } (hdE H 1 p x0 q.ex) C w1)):=fun w1 hv h1=>ih277 h1 hq.z7 hq.m7 hq.pz hq.pm (by simp;omega) x0 hq.hx
 have CTY:=zH ac132
 have H0:=zH h
 have c4:Hid (∀w1 hv,WtAt B wb { q with kind:=1,hv:=hv } (H++[UInt8.ofNat (2*p*16+1)]) C w1→w1.cell? ⟨wb,4,none⟩=some (.int .u8 d)):=fun w1 hv h1=>by rw[h1.c];show some (Value.int .u8 q.dm)=_;rw[hq.dm]
 have hdd:((d:Int) != (d:Int))=false:=by simp
 have b0:=zN w (.cells #[.float .f64 x,.float .f64 y,.float .f64 u,.float .f64 v,.int .u8 d,.bool true] 115)
 obtain⟨w0,hw0⟩:∃w0,w0=w.alloc (.cells #[.float .f64 x,.float .f64 y,.float .f64 u,.float .f64 v,.int .u8 d,.bool true] 115):=⟨_,rfl⟩
 rw[←hw0] at b0
 have F0:Hid (ZF w w0):=by show Fr _ _ _;rw[hw0];exact (Fr.refl _ w).alloc _
 have B0:=zH b0
 have HW0:=zH hw0
 have NB:Hid (¬Rw wb q w.heap.size):=h.not (Nat.le_refl _)
 clear h hq hrf hQ hH hw0 b0
 go_enter Tryz.func222,Tryz.ntmps222
 go_upto_region 1 with fail
 rw[←HW0.out]
 go_upto_region 2 with (go_at_call 274;(with_reducible refine (C274.out _ (H0.out.keep F0.out)).mono ?_);rintro e w1 ⟨rfl,hv,hp⟩)
 have CH01:Hid (Ch wb q { q with kind:=1,hv:=hv } w0 w1):=⟨hp.out.2.fr,hp.out.2.nx⟩
 have CH1:Hid (Ch wb q { q with kind:=1,hv:=hv } w w1):=(Ch.of F0.out).trans CH01.out
 have HA1:=zH hp.out.1
 have hb1:Hid (w1.heap[w.heap.size]?=some (.cells #[.float .f64 x,.float .f64 y,.float .f64 u,.float .f64 v,.int .u8 d,.bool true] 115 (0,0))):=(CH01.out.fr.block _ (zG B0.out).1 NB.out).trans B0.out
 have NB1:Hid (¬Rw wb { q with kind:=1,hv:=hv } w.heap.size):=CH01.out.not NB.out (zG B0.out).1
 clear hp
 obtain⟨q0,q1,q2,q3,q4,q5,_⟩:=pt_cells hb1.out
 go_upto_region 3 with (go_at_call 132;refine (CTY.out _ _ _ _ _ _ _).mono ?_;rintro e w2 ⟨rfl,hw2⟩;have F2:Hid (ZF w1 w2):=(by show Fr _ _ _;rw[hw2];first|exact (Fr.refl _ _).alloc _|exact ((Fr.refl _ _).alloc _).alloc _);clear hw2)
 have HA2:=zH (HA1.out.keep F2.out)
 have d4:=c4.out _ _ HA2.out
 have hb2:Hid (w2.heap[w.heap.size]?=some (.cells #[.float .f64 x,.float .f64 y,.float .f64 u,.float .f64 v,.int .u8 d,.bool true] 115 (0,0))):=(F2.out.block _ (zG hb1.out).1 (fun h=>h)).trans hb1.out
 clear q0 q1 q2 q3 q4 q5
 obtain⟨q0,q1,q2,q3,q4,q5,_⟩:=pt_cells hb2.out
 go_upto_region 8 with (go_at_call 275;(with_reducible refine (CE.out _).mono ?_);rintro e w3 ⟨rfl,f3⟩;have F3:=zH f3;clear f3)
 have HA3:=zH (HA2.out.keep F3.out)
 have hb3:Hid (w3.heap[w.heap.size]?=some (.cells #[.float .f64 x,.float .f64 y,.float .f64 u,.float .f64 v,.int .u8 d,.bool true] 115 (0,0))):=(F3.out.block _ (zG hb2.out).1 (fun h=>h)).trans hb2.out
 go_upto_region 9 with (go_at_call 277;(with_reducible refine (C277.out _ _ HA3.out).mono ?_);rintro e w4 ⟨rfl,hv4,hp⟩)
 have CH4:Hid (Ch wb q { q with kind:=1,hv:=hv4 } w w4):=(CH1.out.trans (Ch.of (F2.out.trans F3.out))).trans hp.out.2
 have HA4:Hid (WtAt B wb { q with kind:=1,hv:=hv4 } (hdE H 1 p x0 q.ex) C w4):=hp.out.1
 have hb4:Hid (w4.heap[w.heap.size]?=some (.cells #[.float .f64 x,.float .f64 y,.float .f64 u,.float .f64 v,.int .u8 d,.bool true] 115 (0,0))):=(hp.out.2.fr.block _ (zG hb3.out).1 NB1.out).trans hb3.out
 clear hp q0 q1 q2 q3 q4 q5  d4
 obtain⟨q0,q1,q2,q3,q4,q5,_⟩:=pt_cells hb4.out
 have CC:=zH (CF.out _ _ HA4.out CH4.out.fr)
 go_wp2_with (go_at_call 278;(with_reducible refine CC.out.mono ?_);rintro e w5 ⟨rfl,cv,rf,ok,mn,mx,hp⟩)
 go_ret
 exact⟨rfl,_,hp.out.1,CH4.out.trans hp.out.2.2⟩
theorem wk223{B wb:Nat}{q:Wt}{H C:List UInt8}{w:World}(h:WtAt B wb q H C w){d p z m x0:Nat}{ps Q:List Int}(hq:WqOk q d ps p z m x0)(hrf:RfOk q.rf Q)(hQ:QOk ps Q)(hH:H.length≤900){n:Nat}(hn0:0 < n)(hn:n≤5000){xs:List (Int × Int)}(hx:WR ps n xs)(hsm:∀x∈xs,x.2.natAbs < 35184372088832){g o N c:Nat}(hE:LnE d (fun b=>b < B) w [.int .u8 d,.slice (some ⟨g,o,none⟩) N c] (xs.map flp))(hC:(C++lineE ps Q xs).length≤10000000000000):
  Calls Tryz.prog 223 #[.pointer (some ⟨wb,0,none⟩),.agg #[.int .u8 d,.slice (some ⟨g,o,none⟩) N c]] w (KwPost B wb q (hdE H 2 p x0 q.ex) (C++lineE ps Q xs) w):=by
 have hsf:=st_fl
 have CF:Hid (∀w1 hv,WtAt B wb { q with kind:=2,hv:=hv } (hdE H 2 p x0 q.ex) C w1→Fr (Rw wb q) w w1→Calls Tryz.prog 279 #[.pointer (some ⟨wb,0,none⟩),.agg #[.int .u8 d,.slice (some ⟨g,o,none⟩) N c]] w1 (WpPost B wb { q with kind:=2,hv:=hv } (lastQ ps Q xs) (hdE H 2 p x0 q.ex) (C++lineE ps Q xs) w1)):=fun w1 hv h1 f=>wl279 h1 hq.d3 ⟨hq.wc.dims,hq.wc.lo,hq.wc.hi,hq.wc.bd,hq.wc.sc⟩ hq.pl hrf hQ hn0 hn hx hsm ((LnE.kp d).kept (fun b hb hl=>f.block b hl (fun hr=>by have h9:=(h.own_ge b hr).1;have h8:b < B:=hb;omega)) hE) hC
 have hNq:N=n*wd d:=by obtain⟨_,_,_,_,e,e1,_⟩:=hE;simp only[List.cons.injEq,Value.slice.injEq,and_true,true_and] at e;rw[e.2.1,e1,List.length_map,hx.len,hq.pl]
 have CE:Hid (∀w1,Calls Tryz.prog 246 #[.agg #[.int .u8 d,.slice (some ⟨g,o,none⟩) N c]] w1 (Ac (.bool false) w1)):=fun w1=>em246 d hq.d3 g o N c n w1 hNq (by have:=wd_pos d;have h7:=Nat.mul_le_mul hn this.2;omega) hn0
 clear hn0 hn hx hsm hE hC hNq
 have C274:Hid (∀w1,WtAt B wb q H C w1→Calls Tryz.prog 274 #[.pointer (some ⟨wb,0,none⟩),.int .i64 2] w1 (WkPost B wb { q with kind:=2 } (H++[UInt8.ofNat (2*p*16+2)]) C w1)):=fun w1 h1=>tp274 h1 hq.p7 hq.px 2 (by decide) (by omega)
 have C277:Hid (∀w1 hv,WtAt B wb { q with kind:=2,hv:=hv } (H++[UInt8.ofNat (2*p*16+2)]) C w1→Calls Tryz.prog 277 #[.pointer (some ⟨wb,0,none⟩)] w1 (WhPost B wb { q with kind:=2,hv:=hv } (hdE H 2 p x0 q.ex) C w1)):=fun w1 hv h1=>ih277 h1 hq.z7 hq.m7 hq.pz hq.pm (by simp;omega) x0 hq.hx
 have CTY:=zH ac151
 have H0:=zH h
 have c4:Hid (∀w1 hv,WtAt B wb { q with kind:=2,hv:=hv } (H++[UInt8.ofNat (2*p*16+2)]) C w1→w1.cell? ⟨wb,4,none⟩=some (.int .u8 d)):=fun w1 hv h1=>by rw[h1.c];show some (Value.int .u8 q.dm)=_;rw[hq.dm]
 have hdd:((d:Int) != (d:Int))=false:=by simp
 have b0:=zN w (.cells #[.int .u8 d,.slice (some ⟨g,o,none⟩) N c] 121)
 obtain⟨w0,hw0⟩:∃w0,w0=w.alloc (.cells #[.int .u8 d,.slice (some ⟨g,o,none⟩) N c] 121):=⟨_,rfl⟩
 rw[←hw0] at b0
 have F0:Hid (ZF w w0):=by show Fr _ _ _;rw[hw0];exact (Fr.refl _ w).alloc _
 have B0:=zH b0
 have HW0:=zH hw0
 have NB:Hid (¬Rw wb q w.heap.size):=h.not (Nat.le_refl _)
 clear h hq hrf hQ hH hw0 b0
 go_enter Tryz.func223,Tryz.ntmps223
 go_upto_region 1 with fail
 rw[←HW0.out]
 go_upto_region 2 with (go_at_call 274;(with_reducible refine (C274.out _ (H0.out.keep F0.out)).mono ?_);rintro e w1 ⟨rfl,hv,hp⟩)
 have CH01:Hid (Ch wb q { q with kind:=2,hv:=hv } w0 w1):=⟨hp.out.2.fr,hp.out.2.nx⟩
 have CH1:Hid (Ch wb q { q with kind:=2,hv:=hv } w w1):=(Ch.of F0.out).trans CH01.out
 have HA1:=zH hp.out.1
 have hb1:Hid (w1.heap[w.heap.size]?=some (.cells #[.int .u8 d,.slice (some ⟨g,o,none⟩) N c] 121 (0,0))):=(CH01.out.fr.block _ (zG B0.out).1 NB.out).trans B0.out
 have NB1:Hid (¬Rw wb { q with kind:=2,hv:=hv } w.heap.size):=CH01.out.not NB.out (zG B0.out).1
 clear hp
 obtain⟨q0,q1,_⟩:=lm_cells hb1.out
 go_upto_region 3 with (go_at_call 151;refine (CTY.out _ _ _ _ _ _).mono ?_;rintro e w2 ⟨rfl,hw2⟩;have F2:Hid (ZF w1 w2):=(by show Fr _ _ _;rw[hw2];first|exact (Fr.refl _ _).alloc _|exact ((Fr.refl _ _).alloc _).alloc _);clear hw2)
 have HA2:=zH (HA1.out.keep F2.out)
 have d4:=c4.out _ _ HA2.out
 have hb2:Hid (w2.heap[w.heap.size]?=some (.cells #[.int .u8 d,.slice (some ⟨g,o,none⟩) N c] 121 (0,0))):=(F2.out.block _ (zG hb1.out).1 (fun h=>h)).trans hb1.out
 clear q0 q1
 obtain⟨q0,q1,_⟩:=lm_cells hb2.out
 go_upto_region 8 with (go_at_call 246;(with_reducible refine (CE.out _).mono ?_);rintro e w3 ⟨rfl,f3⟩;have F3:=zH f3;clear f3)
 have HA3:=zH (HA2.out.keep F3.out)
 have hb3:Hid (w3.heap[w.heap.size]?=some (.cells #[.int .u8 d,.slice (some ⟨g,o,none⟩) N c] 121 (0,0))):=(F3.out.block _ (zG hb2.out).1 (fun h=>h)).trans hb2.out
 go_upto_region 9 with (go_at_call 277;(with_reducible refine (C277.out _ _ HA3.out).mono ?_);rintro e w4 ⟨rfl,hv4,hp⟩)
 have CH4:Hid (Ch wb q { q with kind:=2,hv:=hv4 } w w4):=(CH1.out.trans (Ch.of (F2.out.trans F3.out))).trans hp.out.2
 have HA4:Hid (WtAt B wb { q with kind:=2,hv:=hv4 } (hdE H 2 p x0 q.ex) C w4):=hp.out.1
 have hb4:Hid (w4.heap[w.heap.size]?=some (.cells #[.int .u8 d,.slice (some ⟨g,o,none⟩) N c] 121 (0,0))):=(hp.out.2.fr.block _ (zG hb3.out).1 NB1.out).trans hb3.out
 clear hp q0 q1  d4
 obtain⟨q0,q1,_⟩:=lm_cells hb4.out
 have CC:=zH (CF.out _ _ HA4.out CH4.out.fr)
 go_wp2_with (go_at_call 279;(with_reducible refine CC.out.mono ?_);rintro e w5 ⟨rfl,cv,rf,ok,mn,mx,hp⟩)
 go_ret
 exact⟨rfl,_,hp.out.1,CH4.out.trans hp.out.2.2⟩
theorem wk224{B wb:Nat}{q:Wt}{H C:List UInt8}{w:World}(h:WtAt B wb q H C w){d p z m x0:Nat}{ps Q:List Int}(hq:WqOk q d ps p z m x0)(hrf:RfOk q.rf Q)(hQ:QOk ps Q)(hH:H.length≤900){xs:List (List (Int × Int))}(hxs:LsOk ps xs){g o n c:Nat}(hE:RowsAt (LnE d) (fun b=>b < B) 2 w (.slice (some ⟨g,o,none⟩) n c) (xs.map (·.map flp)))(hnx:n=xs.length)(hn0:0 < n)(hn4:n≤4096)(hC:(C++polyE ps Q xs).length≤10000000000000):
  Calls Tryz.prog 224 #[.pointer (some ⟨wb,0,none⟩),.agg #[.slice (some ⟨g,o,none⟩) n c,.int .u8 d]] w (KwPost B wb q (hdE H 3 p x0 q.ex) (C++polyE ps Q xs) w):=by
 have hsf:=st_fl
 have CF:Hid (∀w1 hv,WtAt B wb { q with kind:=3,hv:=hv } (hdE H 3 p x0 q.ex) C w1→Fr (Rw wb q) w w1→Calls Tryz.prog 280 #[.pointer (some ⟨wb,0,none⟩),.agg #[.slice (some ⟨g,o,none⟩) n c,.int .u8 d]] w1 (WpPost B wb { q with kind:=3,hv:=hv } (polyN ps Q xs) (hdE H 3 p x0 q.ex) (C++polyE ps Q xs) w1)):=fun w1 hv h1 f=>wp280 h1 hq.d3 ⟨hq.wc.dims,hq.wc.lo,hq.wc.hi,hq.wc.bd,hq.wc.sc⟩ hq.pl hrf hQ hxs (hE.kept (LnE.kp d) (fun b hb hl=>f.block b hl (fun hr=>by have h9:=(h.own_ge b hr).1;have h8:b < B:=hb;omega))) hnx hn0 hn4 hC
 have CE:Hid (∀w1,Calls Tryz.prog 261 #[.agg #[.slice (some ⟨g,o,none⟩) n c,.int .u8 d]] w1 (Ac (.bool false) w1)):=fun w1=>em261 d g o n c w1 hn0
 clear hxs hE hnx hn0 hn4 hC
 have C274:Hid (∀w1,WtAt B wb q H C w1→Calls Tryz.prog 274 #[.pointer (some ⟨wb,0,none⟩),.int .i64 3] w1 (WkPost B wb { q with kind:=3 } (H++[UInt8.ofNat (2*p*16+3)]) C w1)):=fun w1 h1=>tp274 h1 hq.p7 hq.px 3 (by decide) (by omega)
 have C277:Hid (∀w1 hv,WtAt B wb { q with kind:=3,hv:=hv } (H++[UInt8.ofNat (2*p*16+3)]) C w1→Calls Tryz.prog 277 #[.pointer (some ⟨wb,0,none⟩)] w1 (WhPost B wb { q with kind:=3,hv:=hv } (hdE H 3 p x0 q.ex) C w1)):=fun w1 hv h1=>ih277 h1 hq.z7 hq.m7 hq.pz hq.pm (by simp;omega) x0 hq.hx
 have CTY:=zH ac137
 have H0:=zH h
 have c4:Hid (∀w1 hv,WtAt B wb { q with kind:=3,hv:=hv } (H++[UInt8.ofNat (2*p*16+3)]) C w1→w1.cell? ⟨wb,4,none⟩=some (.int .u8 d)):=fun w1 hv h1=>by rw[h1.c];show some (Value.int .u8 q.dm)=_;rw[hq.dm]
 have hdd:((d:Int) != (d:Int))=false:=by simp
 have b0:=zN w (.cells #[.slice (some ⟨g,o,none⟩) n c,.int .u8 d] 126)
 obtain⟨w0,hw0⟩:∃w0,w0=w.alloc (.cells #[.slice (some ⟨g,o,none⟩) n c,.int .u8 d] 126):=⟨_,rfl⟩
 rw[←hw0] at b0
 have F0:Hid (ZF w w0):=by show Fr _ _ _;rw[hw0];exact (Fr.refl _ w).alloc _
 have B0:=zH b0
 have HW0:=zH hw0
 have NB:Hid (¬Rw wb q w.heap.size):=h.not (Nat.le_refl _)
 clear h hq hrf hQ hH hw0 b0
 go_enter Tryz.func224,Tryz.ntmps224
 go_upto_region 1 with fail
 rw[←HW0.out]
 go_upto_region 2 with (go_at_call 274;(with_reducible refine (C274.out _ (H0.out.keep F0.out)).mono ?_);rintro e w1 ⟨rfl,hv,hp⟩)
 have CH01:Hid (Ch wb q { q with kind:=3,hv:=hv } w0 w1):=⟨hp.out.2.fr,hp.out.2.nx⟩
 have CH1:Hid (Ch wb q { q with kind:=3,hv:=hv } w w1):=(Ch.of F0.out).trans CH01.out
 have HA1:=zH hp.out.1
 have hb1:Hid (w1.heap[w.heap.size]?=some (.cells #[.slice (some ⟨g,o,none⟩) n c,.int .u8 d] 126 (0,0))):=(CH01.out.fr.block _ (zG B0.out).1 NB.out).trans B0.out
 have NB1:Hid (¬Rw wb { q with kind:=3,hv:=hv } w.heap.size):=CH01.out.not NB.out (zG B0.out).1
 clear hp
 obtain⟨q0,q1,_⟩:=lm_cells hb1.out
 go_upto_region 3 with (go_at_call 137;refine (CTY.out _ _ _ _ _ _).mono ?_;rintro e w2 ⟨rfl,hw2⟩;have F2:Hid (ZF w1 w2):=(by show Fr _ _ _;rw[hw2];first|exact (Fr.refl _ _).alloc _|exact ((Fr.refl _ _).alloc _).alloc _);clear hw2)
 have HA2:=zH (HA1.out.keep F2.out)
 have d4:=c4.out _ _ HA2.out
 have hb2:Hid (w2.heap[w.heap.size]?=some (.cells #[.slice (some ⟨g,o,none⟩) n c,.int .u8 d] 126 (0,0))):=(F2.out.block _ (zG hb1.out).1 (fun h=>h)).trans hb1.out
 clear q0 q1
 obtain⟨q0,q1,_⟩:=lm_cells hb2.out
 go_upto_region 8 with (go_at_call 261;(with_reducible refine (CE.out _).mono ?_);rintro e w3 ⟨rfl,f3⟩;have F3:=zH f3;clear f3)
 have HA3:=zH (HA2.out.keep F3.out)
 have hb3:Hid (w3.heap[w.heap.size]?=some (.cells #[.slice (some ⟨g,o,none⟩) n c,.int .u8 d] 126 (0,0))):=(F3.out.block _ (zG hb2.out).1 (fun h=>h)).trans hb2.out
 go_upto_region 9 with (go_at_call 277;(with_reducible refine (C277.out _ _ HA3.out).mono ?_);rintro e w4 ⟨rfl,hv4,hp⟩)
 have CH4:Hid (Ch wb q { q with kind:=3,hv:=hv4 } w w4):=(CH1.out.trans (Ch.of (F2.out.trans F3.out))).trans hp.out.2
 have HA4:Hid (WtAt B wb { q with kind:=3,hv:=hv4 } (hdE H 3 p x0 q.ex) C w4):=hp.out.1
 have hb4:Hid (w4.heap[w.heap.size]?=some (.cells #[.slice (some ⟨g,o,none⟩) n c,.int .u8 d] 126 (0,0))):=(hp.out.2.fr.block _ (zG hb3.out).1 NB1.out).trans hb3.out
 clear hp q0 q1  d4
 obtain⟨q0,q1,_⟩:=lm_cells hb4.out
 have CC:=zH (CF.out _ _ HA4.out CH4.out.fr)
 go_wp2_with (go_at_call 280;(with_reducible refine CC.out.mono ?_);rintro e w5 ⟨rfl,cv,rf,ok,mn,mx,hp⟩)
 go_ret
 exact⟨rfl,_,hp.out.1,CH4.out.trans hp.out.2.2⟩
end Go.Proofs.YtnjjgbcmjnfijaaGreatDoor
