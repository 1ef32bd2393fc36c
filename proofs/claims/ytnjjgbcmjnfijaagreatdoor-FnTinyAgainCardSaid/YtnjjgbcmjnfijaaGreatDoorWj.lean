/- The package's things asked: are they empty, their rings. No condition. -/
import Derived.Test.YtnjjgbcmjnfijaaGreatDoorRp
import Derived.Test.YtnjjgbcmjnfijaaGreatDoorWb
import Derived.Test.YtnjjgbcmjnfijaaGreatDoorR8
import Derived.Test.YtnjjgbcmjnfijaaGreatDoorWh
namespace Go.Proofs.YtnjjgbcmjnfijaaGreatDoor
set_option maxRecDepth 100000
set_option maxHeartbeats 1000000
open Go.RowKit
theorem em275(x y z m d:Nat)(w:World):Calls Tryz.prog 275 #[.agg #[.float .f64 x,.float .f64 y,.float .f64 z,.float .f64 m,.int .u8 d,.bool true]] w (Ac (.bool false) w):=by
 have hsf:=st_fl
 go_enter Tryz.func275,Tryz.ntmps275
 go_wp2_with fail
 go_ret
 exact⟨rfl,(Fr.refl _ w).alloc _⟩
theorem em246(d:Nat)(hd:d≤3)(g o n c q:Nat)(w:World)(hn:n=q*wd d)(hl:n≤100000)(hq:0 < q):Calls Tryz.prog 246 #[.agg #[.int .u8 d,.slice (some ⟨g,o,none⟩) n c]] w (Ac (.bool false) w):=by
 have C156:Hid (∀w1,Calls Tryz.prog 156 #[.agg #[.int .u8 d,.slice (some ⟨g,o,none⟩) n c]] w1 fun e w'=>e=.returned (.int .i64 q)∧ZF w1 w'):=fun w1=>ac156 d hd g o n c q w1 hn hl
 have hq0:((q:Int) == 0)=false:=by simp;omega
 clear hn hl hq
 go_enter Tryz.func246,Tryz.ntmps246
 go_wp2_with (go_at_call 156;refine (C156.out _).mono ?_;rintro e w' ⟨rfl,f⟩;have F:=zH (((Fr.refl (fun _=>False) w).alloc _).trans f);clear f)
 go_ret
 exact⟨rfl,F.out⟩
theorem em261(d g o n c:Nat)(w:World)(hn:0 < n):Calls Tryz.prog 261 #[.agg #[.slice (some ⟨g,o,none⟩) n c,.int .u8 d]] w (Ac (.bool false) w):=by
 have hq0:((n:Int) == 0)=false:=by simp;omega
 go_enter Tryz.func261,Tryz.ntmps261
 go_wp2_with fail
 go_ret
 exact⟨rfl,(Fr.refl _ w).alloc _⟩
theorem mx308(n:Nat)(w:World):Calls Tryz.prog 308 #[.int .i64 0,.int .i64 n] w fun e w'=>e=.returned (.int .i64 n)∧w=w':=by
 have h:¬((0:Int) > (n:Int)):=by omega
 have h2:¬((n:Int) < 0):=by omega
 go_enter Tryz.func308,Tryz.ntmps308
 go_wp2_with fail
 go_ret
 exact⟨rfl,rfl⟩
theorem ni334(d g o n c:Nat)(w:World)(hn:0 < n)(hl:n≤100000):Calls Tryz.prog 334 #[.agg #[.slice (some ⟨g,o,none⟩) n c,.int .u8 d]] w (Ac (.int .i64 (n - 1:Nat)) w):=by
 have C:=zH (mx308 (n - 1))
 have e:wrap64 ((n:Int) - 1)=((n - 1:Nat):Int):=by rw[show (n:Int) - 1=((n - 1:Nat):Int) by omega];simp[wrap64];omega
 obtain⟨k,hk⟩:∃k,k=n - 1:=⟨_,rfl⟩
 rw[←hk] at C e ⊢
 clear hk hn hl
 go_enter Tryz.func334,Tryz.ntmps334
 go_wp2_with (go_at_call 308;refine (C.out _).mono ?_;rintro e w' ⟨rfl,rfl⟩)
 go_ret
 exact⟨rfl,(Fr.refl _ w).alloc _⟩
theorem nr332(d g o n c:Nat)(w:World)(hn:0 < n)(hl:n≤100000):Calls Tryz.prog 332 #[.agg #[.slice (some ⟨g,o,none⟩) n c,.int .u8 d]] w (Ac (.int .i64 n) w):=by
 have C:=zH (fun w1=>em261 d g o n c w1 hn)
 have C2:=zH (fun w1=>ni334 d g o n c w1 hn hl)
 have e:wrap64 (1+((n - 1:Nat):Int))=(n:Int):=by rw[show 1+((n - 1:Nat):Int)=(n:Int) by omega];simp[wrap64];omega
 obtain⟨k,hk⟩:∃k,k=n - 1:=⟨_,rfl⟩
 rw[←hk] at C2 e
 clear hk hn hl
 have b:=zN w (.cells #[.slice (some ⟨g,o,none⟩) n c,.int .u8 d] 126)
 obtain⟨w0,hw0⟩:∃w0,w0=w.alloc (.cells #[.slice (some ⟨g,o,none⟩) n c,.int .u8 d] 126):=⟨_,rfl⟩
 have F0:Hid (ZF w w0):=by show Fr _ _ _;rw[hw0];exact (Fr.refl _ w).alloc _
 rw[←hw0] at b
 have HB:=zH b
 have HW:=zH hw0
 obtain⟨q0,q1,_⟩:=lm_cells b
 clear b hw0
 go_enter Tryz.func332,Tryz.ntmps332
 go_upto_region 1 with fail
 rw[←HW.out]
 go_wp2_with (first|(go_at_call 261;refine (C.out _).mono ?_;rintro e w1 ⟨rfl,f⟩;have F1:=zH f;clear f;obtain⟨q0,q1,_⟩:=lm_cells ((F1.out.block _ (zG HB.out).1 (fun h=>h)).trans HB.out))|(go_at_call 334;refine (C2.out _).mono ?_;rintro e w2 ⟨rfl,f⟩;have F2:=zH f;clear f))
 go_ret
 exact⟨congrArg (fun x=>Ending.returned (Value.int .i64 x)) e,(F0.out.trans F1.out).trans F2.out⟩
theorem er271(d g o n c:Nat)(d2 g2 o2 n2 c2:Nat)(w:World)(hn:0 < n)(h0:w.cell? ⟨g,o,none⟩=some (.int .u8 d2))(h1:w.cell? ⟨g,o+1,none⟩=some (.slice (some ⟨g2,o2,none⟩) n2 c2)):Calls Tryz.prog 271 #[.agg #[.slice (some ⟨g,o,none⟩) n c,.int .u8 d]] w (Ac (.agg #[.int .u8 d2,.slice (some ⟨g2,o2,none⟩) n2 c2]) w):=by
 have C:=zH (fun w1=>em261 d g o n c w1 hn)
 have b:=two_allocs w (.cells #[.slice (some ⟨g,o,none⟩) n c,.int .u8 d] 126) (.cells #[.int .u8 0,.slice none 0 0] 121)
 obtain⟨w0,hw0⟩:∃w0,w0=(w.alloc (.cells #[.slice (some ⟨g,o,none⟩) n c,.int .u8 d] 126)).alloc (.cells #[.int .u8 0,.slice none 0 0] 121):=⟨_,rfl⟩
 have F0:Hid (ZF w w0):=by show Fr _ _ _;rw[hw0];exact ((Fr.refl _ w).alloc _).alloc _
 rw[←hw0] at b
 have HB:=zH b
 have HW:=zH hw0
 have H0:=zH (⟨h0,h1⟩:_∧_)
 obtain⟨q0,q1,_⟩:=lm_cells b.1
 have hnI:(0:Int) < (n:Int):=by omega
 clear b hw0 h0 h1
 go_enter Tryz.func271,Tryz.ntmps271
 go_upto_region 1 with fail
 rw[←HW.out]
 go_wp2_with (go_at_call 261;refine (C.out _).mono ?_;rintro e w1 ⟨rfl,f⟩;have F1:=zH f;clear f;obtain⟨q0,q1,_⟩:=lm_cells ((F1.out.block _ (zG HB.out.1).1 (fun h=>h)).trans HB.out.1);obtain⟨r0,r1,rf⟩:=lm_cells ((F1.out.block _ (zG HB.out.2).1 (fun h=>h)).trans HB.out.2);have e0:=(F0.out.trans F1.out).cell H0.out.1 (fun h=>h);have e1:=(F0.out.trans F1.out).cell H0.out.2 (fun h=>h))
 refine bodyPost_ret (v:=.agg #[.int .u8 d2,.slice (some ⟨g2,o2,none⟩) n2 c2]) (by simp[results,Tryz.f271,go_sem,r0,r1]) rfl ⟨rfl,?_⟩
 exact (F0.out.trans F1.out).transNew (((Fr.refl (Eq (w.heap.size+1)) w1).setR _).setR _) (fun b e=>.inl (by omega))
theorem ir335(d g o n c i:Nat)(d2 g2 o2 n2 c2:Nat)(w:World)(hi:i+1 < n)(hn:n≤100000)(h0:w.cell? ⟨g,o+(i+1)*2,none⟩=some (.int .u8 d2))(h1:w.cell? ⟨g,o+(i+1)*2+1,none⟩=some (.slice (some ⟨g2,o2,none⟩) n2 c2)):Calls Tryz.prog 335 #[.agg #[.slice (some ⟨g,o,none⟩) n c,.int .u8 d],.int .i64 i] w (Ac (.agg #[.int .u8 d2,.slice (some ⟨g2,o2,none⟩) n2 c2]) w):=by
 have b:=two_allocs w (.cells #[.slice (some ⟨g,o,none⟩) n c,.int .u8 d] 126) (.cells #[.int .u8 0,.slice none 0 0] 121)
 obtain⟨w0,hw0⟩:∃w0,w0=(w.alloc (.cells #[.slice (some ⟨g,o,none⟩) n c,.int .u8 d] 126)).alloc (.cells #[.int .u8 0,.slice none 0 0] 121):=⟨_,rfl⟩
 have F0:Hid (ZF w w0):=by show Fr _ _ _;rw[hw0];exact ((Fr.refl _ w).alloc _).alloc _
 rw[←hw0] at b
 have HW:=zH hw0
 obtain⟨q0,q1,_⟩:=lm_cells b.1
 obtain⟨r0,r1,rf⟩:=lm_cells b.2
 have e0:=F0.out.cell h0 (fun h=>h)
 have e1:=F0.out.cell h1 (fun h=>h)
 have ew:wrap64 ((i:Int)+1)=((i+1:Nat):Int):=by simp[wrap64];omega
 have hm:((i:Int) == -1)=false:=by simp
 have hlt:((i+1:Nat):Int) < (n:Int):=by omega
 have hlt2:(i:Int)+1 < (n:Int):=by omega
 have h02:(0:Int)≤(i:Int)+1:=by omega
 have htn:((i:Int)+1).toNat=i+1:=by omega
 clear b hw0 h0 h1 hi hn
 go_enter Tryz.func335,Tryz.ntmps335
 go_upto_region 1 with fail
 rw[←HW.out]
 go_wp2_with fail
 refine bodyPost_ret (v:=.agg #[.int .u8 d2,.slice (some ⟨g2,o2,none⟩) n2 c2]) (by simp[results,Tryz.f335,go_sem,r0,r1]) rfl ⟨rfl,?_⟩
 exact F0.out.transNew (((Fr.refl (Eq (w.heap.size+1)) w0).setR _).setR _) (fun b e=>.inl (by omega))
theorem em270(x y z m d g o n c:Nat)(w:World)(hn:0 < n)(h0:w.cell? ⟨g,o,none⟩=some (.float .f64 x))(h1:w.cell? ⟨g,o+1,none⟩=some (.float .f64 y))(h2:w.cell? ⟨g,o+2,none⟩=some (.float .f64 z))(h3:w.cell? ⟨g,o+3,none⟩=some (.float .f64 m))(h4:w.cell? ⟨g,o+4,none⟩=some (.int .u8 d))(h5:w.cell? ⟨g,o+5,none⟩=some (.bool true)):Calls Tryz.prog 270 #[.agg #[.slice (some ⟨g,o,none⟩) n c,.int .u8 d]] w (Ac (.bool false) w):=by
 have hsf:=st_fl
 have C:Hid (∀w1,Calls Tryz.prog 275 #[.agg #[.float .f64 x,.float .f64 y,.float .f64 z,.float .f64 m,.int .u8 d,.bool true]] w1 (Ac (.bool false) w1)):=fun w1=>em275 x y z m d w1
 have b:=zN w (.cells #[.slice (some ⟨g,o,none⟩) n c,.int .u8 d] 130)
 obtain⟨w0,hw0⟩:∃w0,w0=w.alloc (.cells #[.slice (some ⟨g,o,none⟩) n c,.int .u8 d] 130):=⟨_,rfl⟩
 have F0:Hid (ZF w w0):=by show Fr _ _ _;rw[hw0];exact (Fr.refl _ w).alloc _
 rw[←hw0] at b
 have HW:=zH hw0
 obtain⟨q0,q1,_⟩:=lm_cells b
 have e0:=F0.out.cell h0 (fun h=>h)
 have e1:=F0.out.cell h1 (fun h=>h)
 have e2:=F0.out.cell h2 (fun h=>h)
 have e3:=F0.out.cell h3 (fun h=>h)
 have e4:=F0.out.cell h4 (fun h=>h)
 have e5:=F0.out.cell h5 (fun h=>h)
 clear h0 h1 h2 h3 h4 h5
 have hnI:(0:Int) < (n:Int):=by omega
 clear b hw0
 go_enter Tryz.func270,Tryz.ntmps270
 go_upto_region 1 with fail
 rw[←HW.out]
 go_wp2_with fail
 go_loopw [8] (fun iv wr=>iv=.int .i64 0∧wr=w0) (fun _ _=>0)
 case atStart=>exact⟨rfl,rfl⟩
 case round =>
  obtain⟨rfl,rfl⟩:=hrel
  go_wp2_with (go_at_call 275;refine (C.out _).mono ?_;rintro e w1 ⟨rfl,f⟩;have F1:=zH f;clear f)
  go_ret
  exact⟨rfl,(F0.out.alloc _).trans F1.out⟩
theorem em267(d:Nat)(hd:d≤3)(g o n c g2 o2 n2 c2 q:Nat)(w:World)(hn:0 < n)(hq:n2=q*wd d)(hl:n2≤100000)(hq0:0 < q)(h0:w.cell? ⟨g,o,none⟩=some (.int .u8 d))(h1:w.cell? ⟨g,o+1,none⟩=some (.slice (some ⟨g2,o2,none⟩) n2 c2)):Calls Tryz.prog 267 #[.agg #[.slice (some ⟨g,o,none⟩) n c,.int .u8 d]] w (Ac (.bool false) w):=by
 have hsf:=st_fl
 have C:Hid (∀w1,Calls Tryz.prog 246 #[.agg #[.int .u8 d,.slice (some ⟨g2,o2,none⟩) n2 c2]] w1 (Ac (.bool false) w1)):=fun w1=>em246 d hd g2 o2 n2 c2 q w1 hq hl hq0
 have b:=zN w (.cells #[.slice (some ⟨g,o,none⟩) n c,.int .u8 d] 134)
 obtain⟨w0,hw0⟩:∃w0,w0=w.alloc (.cells #[.slice (some ⟨g,o,none⟩) n c,.int .u8 d] 134):=⟨_,rfl⟩
 have F0:Hid (ZF w w0):=by show Fr _ _ _;rw[hw0];exact (Fr.refl _ w).alloc _
 rw[←hw0] at b
 have HW:=zH hw0
 obtain⟨q0,q1,_⟩:=lm_cells b
 have e0:=F0.out.cell h0 (fun h=>h)
 have e1:=F0.out.cell h1 (fun h=>h)
 clear h0 h1 hq hl hq0
 have hnI:(0:Int) < (n:Int):=by omega
 clear b hw0
 go_enter Tryz.func267,Tryz.ntmps267
 go_upto_region 1 with fail
 rw[←HW.out]
 go_wp2_with fail
 go_loopw [8] (fun iv wr=>iv=.int .i64 0∧wr=w0) (fun _ _=>0)
 case atStart=>exact⟨rfl,rfl⟩
 case round =>
  obtain⟨rfl,rfl⟩:=hrel
  go_wp2_with (go_at_call 246;refine (C.out _).mono ?_;rintro e w1 ⟨rfl,f⟩;have F1:=zH f;clear f)
  go_ret
  exact⟨rfl,(F0.out.alloc _).trans F1.out⟩
theorem em283(d g o n c g2 o2 n2 c2:Nat)(w:World)(hn:0 < n)(hn2:0 < n2)(h0:w.cell? ⟨g,o,none⟩=some (.slice (some ⟨g2,o2,none⟩) n2 c2))(h1:w.cell? ⟨g,o+1,none⟩=some (.int .u8 d)):Calls Tryz.prog 283 #[.agg #[.slice (some ⟨g,o,none⟩) n c,.int .u8 d]] w (Ac (.bool false) w):=by
 have hsf:=st_fl
 have C:Hid (∀w1,Calls Tryz.prog 261 #[.agg #[.slice (some ⟨g2,o2,none⟩) n2 c2,.int .u8 d]] w1 (Ac (.bool false) w1)):=fun w1=>em261 d g2 o2 n2 c2 w1 hn2
 have b:=zN w (.cells #[.slice (some ⟨g,o,none⟩) n c,.int .u8 d] 139)
 obtain⟨w0,hw0⟩:∃w0,w0=w.alloc (.cells #[.slice (some ⟨g,o,none⟩) n c,.int .u8 d] 139):=⟨_,rfl⟩
 have F0:Hid (ZF w w0):=by show Fr _ _ _;rw[hw0];exact (Fr.refl _ w).alloc _
 rw[←hw0] at b
 have HW:=zH hw0
 obtain⟨q0,q1,_⟩:=lm_cells b
 have e0:=F0.out.cell h0 (fun h=>h)
 have e1:=F0.out.cell h1 (fun h=>h)
 clear h0 h1 hn2
 have hnI:(0:Int) < (n:Int):=by omega
 clear b hw0
 go_enter Tryz.func283,Tryz.ntmps283
 go_upto_region 1 with fail
 rw[←HW.out]
 go_wp2_with fail
 go_loopw [8] (fun iv wr=>iv=.int .i64 0∧wr=w0) (fun _ _=>0)
 case atStart=>exact⟨rfl,rfl⟩
 case round =>
  obtain⟨rfl,rfl⟩:=hrel
  go_wp2_with (go_at_call 261;refine (C.out _).mono ?_;rintro e w1 ⟨rfl,f⟩;have F1:=zH f;clear f)
  go_ret
  exact⟨rfl,(F0.out.alloc _).trans F1.out⟩
open Go.RowKit
theorem WcOk.with{q:Wt}{ps:List Int}(h:WcOk q ps)(cv:Value):WcOk { q with cv:=cv } ps:=⟨h.dims,h.lo,h.hi,h.bd,h.sc⟩
theorem WcOk.on{q:Wt}{ps:List Int}(h:WcOk q ps)(cv:Value)(rf:Nat→Int)(ok:Bool)(mn mx:Nat→Int):WcOk (q.on cv rf ok mn mx) ps:=⟨h.dims,h.lo,h.hi,h.bd,h.sc⟩
theorem WpPost.after{B wb:Nat}{q q1:Wt}{Q':List Int}{H C:List UInt8}{w w1 w':World}{e:Ending}(h:WpPost B wb q1 Q' H C w1 e w')(c:Ch wb q q1 w w1)(hq:∀cv rf ok mn mx,q1.on cv rf ok mn mx=q.on cv rf ok mn mx):WpPost B wb q Q' H C w e w':=by
 obtain⟨h1,cv,rf,ok,mn,mx,h2⟩:=h
 refine⟨h1,cv,rf,ok,mn,mx,?_⟩
 obtain⟨a,b,d⟩:=h2.out
 rw[hq] at a d
 exact⟨a,b,c.trans d⟩
theorem ws330{B wb:Nat}{q:Wt}{H C:List UInt8}{w:World}(h:WtAt B wb q H C w){ps Q:List Int}(ho:WcOk q ps)(hrf:RfOk q.rf Q)(hQ:QOk ps Q){xs:List (Int × Int)}(hx:WR ps 1 xs)(hsm:∀x∈xs,x.2.natAbs < 35184372088832){g o N c:Nat}(hN:N=xs.length)(hg:¬Rw wb q g)(hc:∀j u,(xs.map (fun x=>flv (flp x)))[j]?=some u→w.cell? ⟨g,o+j,none⟩=some u)(hC:(C++rowE ps Q xs).length≤10000000000000):
  Calls Tryz.prog 330 #[.pointer (some ⟨wb,0,none⟩),.slice (some ⟨g,o,none⟩) N c] w (WpPost B wb q (lastQ ps Q xs) H (C++rowE ps Q xs) w):=by
 have C331:Hid (Calls Tryz.prog 331 #[.pointer (some ⟨wb,0,none⟩),.int .i64 1,.slice (some ⟨g,o,none⟩) N c] w (WpPost B wb q (lastQ ps Q xs) H (C++rowE ps Q xs) w)):=wp331 h ho hrf hQ (n:=1) (by decide) hx hsm hN hg hc hC
 clear h ho hrf hQ hx hsm hN hg hc hC
 go_enter Tryz.func330,Tryz.ntmps330
 go_wp2_with (go_at_call 331;(with_reducible refine C331.out.mono ?_);rintro e w5 hp5;have HP5:=zH hp5;obtain⟨rfl,hq5⟩:=hp5;clear hq5)
 go_end0
 exact HP5.out
theorem fls_at(w:World)(ys:List Nat)(t:TypeId):∀j u,(ys.map flv)[j]?=some u→(w.alloc (.cells (ys.map flv).toArray t)).cell? ⟨w.heap.size,0+j,none⟩=some u:=fun j u hu=>by
 rw[zC (zN w _),Nat.zero_add]
 simpa using hu
theorem wc278{B wb:Nat}{q:Wt}{H C:List UInt8}{w:World}(h:WtAt B wb q H C w){d:Nat}(hd:d≤3){ps Q:List Int}(ho:WcOk q ps)(hrf:RfOk q.rf Q)(hQ:QOk ps Q){xs:List (Int × Int)}(hx:WR ps 1 xs)(hsm:∀x∈xs,x.2.natAbs < 35184372088832){x y z m:Nat}(hE:xs.map flp=numsOf d (x,y,z,m))(hC:(C++rowE ps Q xs).length≤10000000000000):
  Calls Tryz.prog 278 #[.pointer (some ⟨wb,0,none⟩),.agg #[.float .f64 x,.float .f64 y,.float .f64 z,.float .f64 m,.int .u8 d,.bool true]] w (WpPost B wb q (lastQ ps Q xs) H (C++rowE ps Q xs) w):=by
 have hsf:=st_fl
 have C132:=zH ac132
 have CW:Hid (∀(ys:List Nat) (n:Nat) (cs:Array Value) w1,ys=numsOf d (x,y,z,m)→n=ys.length→cs=(ys.map flv).toArray→ZF w w1→Calls Tryz.prog 330 #[.pointer (some ⟨wb,0,none⟩),.slice (some ⟨w1.heap.size,0,none⟩) n n] (w1.alloc (.cells cs 40)) (WpPost B wb q (lastQ ps Q xs) H (C++rowE ps Q xs) (w1.alloc (.cells cs 40)))):=fun ys n cs w1 hy hn hcs f=>by
  subst hcs
  have h1:=h.keep (f.alloc (.cells (ys.map flv).toArray 40))
  refine ws330 h1 ho hrf hQ hx hsm (by rw[hn,hy,←hE,List.length_map]) (fun hr=>?_) (fun j u hu=>fls_at w1 ys 40 j u (by rw[hy,←hE,List.map_map];exact hu)) hC
  have h8:=(h.own_ge _ hr).2
  have h9:=f.size
  omega
 have HO:=zH (fun (w1:World) (e:Ending) (w2:World) (f:ZF w w1) (p:WpPost B wb q (lastQ ps Q xs) H (C++rowE ps Q xs) w1 e w2)=>(p.after (Ch.of f) (fun _ _ _ _ _=>rfl):WpPost B wb q (lastQ ps Q xs) H (C++rowE ps Q xs) w e w2))
 clear h ho hrf hQ hx hsm hE hC
 have hd':d=0∨d=1∨d=2∨d=3:=by omega
 clear hd
 rcases hd' with rfl|rfl|rfl|rfl
 ·go_enter Tryz.func278,Tryz.ntmps278
  go_upto_region 1 with fail
  have b0:=zN w (.cells #[.float .f64 x,.float .f64 y,.float .f64 z,.float .f64 m,.int .u8 0,.bool true] 115)
  generalize hw0:w.alloc _=w0 at b0 ⊢
  have F0:Hid (ZF w w0):=by show Fr _ _ _;rw[←hw0];exact (Fr.refl _ w).alloc _
  have B0:=zH b0
  obtain⟨p0,p1,p2,p3,p4,p5,_⟩:=pt_cells b0
  clear hw0 b0
  go_upto_block 0 with (go_at_call 132;refine (C132.out _ _ _ _ _ _ _).mono ?_;rintro e w1 ⟨rfl,hw1⟩;have F1:Hid (ZF w0 w1):=(by show Fr _ _ _;rw[hw1];exact (Fr.refl _ _).alloc _);clear hw1)
  have F01:=zH (F0.out.trans F1.out)
  clear p0 p1 p2 p3 p4 p5
  obtain⟨p0,p1,p2,p3,p4,p5,_⟩:=pt_cells ((F1.out.block _ (zG B0.out).1 (fun h=>h)).trans B0.out)
  go_wp2_with (go_at_call 330;refine (CW.out _ _ _ w1 rfl rfl rfl F01.out).mono ?_;rintro e w5 hp5;have HP5:=zH hp5;obtain⟨rfl,hq5⟩:=hp5;clear hq5)
  go_end0
  exact HO.out _ _ _ (F01.out.alloc _) HP5.out
 ·go_enter Tryz.func278,Tryz.ntmps278
  go_upto_region 1 with fail
  have b0:=zN w (.cells #[.float .f64 x,.float .f64 y,.float .f64 z,.float .f64 m,.int .u8 1,.bool true] 115)
  generalize hw0:w.alloc _=w0 at b0 ⊢
  have F0:Hid (ZF w w0):=by show Fr _ _ _;rw[←hw0];exact (Fr.refl _ w).alloc _
  have B0:=zH b0
  obtain⟨p0,p1,p2,p3,p4,p5,_⟩:=pt_cells b0
  clear hw0 b0
  go_upto_block 0 with (go_at_call 132;refine (C132.out _ _ _ _ _ _ _).mono ?_;rintro e w1 ⟨rfl,hw1⟩;have F1:Hid (ZF w0 w1):=(by show Fr _ _ _;rw[hw1];exact (Fr.refl _ _).alloc _);clear hw1)
  have F01:=zH (F0.out.trans F1.out)
  clear p0 p1 p2 p3 p4 p5
  obtain⟨p0,p1,p2,p3,p4,p5,_⟩:=pt_cells ((F1.out.block _ (zG B0.out).1 (fun h=>h)).trans B0.out)
  go_wp2_with (go_at_call 330;refine (CW.out _ _ _ w1 rfl rfl rfl F01.out).mono ?_;rintro e w5 hp5;have HP5:=zH hp5;obtain⟨rfl,hq5⟩:=hp5;clear hq5)
  go_end0
  exact HO.out _ _ _ (F01.out.alloc _) HP5.out
 ·go_enter Tryz.func278,Tryz.ntmps278
  go_upto_region 1 with fail
  have b0:=zN w (.cells #[.float .f64 x,.float .f64 y,.float .f64 z,.float .f64 m,.int .u8 2,.bool true] 115)
  generalize hw0:w.alloc _=w0 at b0 ⊢
  have F0:Hid (ZF w w0):=by show Fr _ _ _;rw[←hw0];exact (Fr.refl _ w).alloc _
  have B0:=zH b0
  obtain⟨p0,p1,p2,p3,p4,p5,_⟩:=pt_cells b0
  clear hw0 b0
  go_upto_block 0 with (go_at_call 132;refine (C132.out _ _ _ _ _ _ _).mono ?_;rintro e w1 ⟨rfl,hw1⟩;have F1:Hid (ZF w0 w1):=(by show Fr _ _ _;rw[hw1];exact (Fr.refl _ _).alloc _);clear hw1)
  have F01:=zH (F0.out.trans F1.out)
  clear p0 p1 p2 p3 p4 p5
  obtain⟨p0,p1,p2,p3,p4,p5,_⟩:=pt_cells ((F1.out.block _ (zG B0.out).1 (fun h=>h)).trans B0.out)
  go_wp2_with (go_at_call 330;refine (CW.out _ _ _ w1 rfl rfl rfl F01.out).mono ?_;rintro e w5 hp5;have HP5:=zH hp5;obtain⟨rfl,hq5⟩:=hp5;clear hq5)
  go_end0
  exact HO.out _ _ _ (F01.out.alloc _) HP5.out
 ·go_enter Tryz.func278,Tryz.ntmps278
  go_upto_region 1 with fail
  have b0:=zN w (.cells #[.float .f64 x,.float .f64 y,.float .f64 z,.float .f64 m,.int .u8 3,.bool true] 115)
  generalize hw0:w.alloc _=w0 at b0 ⊢
  have F0:Hid (ZF w w0):=by show Fr _ _ _;rw[←hw0];exact (Fr.refl _ w).alloc _
  have B0:=zH b0
  obtain⟨p0,p1,p2,p3,p4,p5,_⟩:=pt_cells b0
  clear hw0 b0
  go_upto_block 0 with (go_at_call 132;refine (C132.out _ _ _ _ _ _ _).mono ?_;rintro e w1 ⟨rfl,hw1⟩;have F1:Hid (ZF w0 w1):=(by show Fr _ _ _;rw[hw1];exact (Fr.refl _ _).alloc _);clear hw1)
  have F01:=zH (F0.out.trans F1.out)
  clear p0 p1 p2 p3 p4 p5
  obtain⟨p0,p1,p2,p3,p4,p5,_⟩:=pt_cells ((F1.out.block _ (zG B0.out).1 (fun h=>h)).trans B0.out)
  go_wp2_with (go_at_call 330;refine (CW.out _ _ _ w1 rfl rfl rfl F01.out).mono ?_;rintro e w5 hp5;have HP5:=zH hp5;obtain⟨rfl,hq5⟩:=hp5;clear hq5)
  go_end0
  exact HO.out _ _ _ (F01.out.alloc _) HP5.out
theorem wl279{B wb:Nat}{q:Wt}{H C:List UInt8}{w:World}(h:WtAt B wb q H C w){d:Nat}(hd:d≤3){ps Q:List Int}(ho:WcOk q ps)(hpl:ps.length=wd d)(hrf:RfOk q.rf Q)(hQ:QOk ps Q){n:Nat}(hn0:0 < n)(hn:n≤5000){xs:List (Int × Int)}(hx:WR ps n xs)(hsm:∀x∈xs,x.2.natAbs < 35184372088832){g o N c:Nat}(hE:LnE d (fun b=>b < B) w [.int .u8 d,.slice (some ⟨g,o,none⟩) N c] (xs.map flp))(hC:(C++lineE ps Q xs).length≤10000000000000):
  Calls Tryz.prog 279 #[.pointer (some ⟨wb,0,none⟩),.agg #[.int .u8 d,.slice (some ⟨g,o,none⟩) N c]] w (WpPost B wb q (lastQ ps Q xs) H (C++lineE ps Q xs) w):=by
 obtain⟨ga,oa,na,ca,e,e1,_,_,_,e3,e5,e4⟩:=hE
 simp only[List.cons.injEq,Value.slice.injEq,Option.some.injEq,Addr.mk.injEq,and_true,true_and] at e
 obtain⟨⟨rfl,rfl⟩,rfl,rfl⟩:=e
 rw[List.length_map] at e1
 have hNq:N=n*wd d:=by rw[e1,hx.len,hpl]
 have hqq:xs.length / ps.length=n:=by rw[hx.len];exact Nat.mul_div_cancel _ (by have:=ho.lo;omega)
 have C156:Hid (∀w1,Calls Tryz.prog 156 #[.agg #[.int .u8 d,.slice (some ⟨g,o,none⟩) N c]] w1 fun e w'=>e=.returned (.int .i64 n)∧ZF w1 w'):=fun w1=>ac156 d hd g o N c n w1 hNq (by omega)
 have C136:=zH ac136
 unfold lineE at hC ⊢
 rw[hqq,←List.append_assoc] at hC ⊢
 have C281:Hid (∀w1,WtAt B wb q H C w1→Calls Tryz.prog 281 #[.pointer (some ⟨wb,0,none⟩),.int .u64 n] w1 (WrPost B wb q H (C++Lib.uvarint n) w1)):=fun w1 h1=>uv281 h1 n (by omega) (by rw[List.length_append] at hC;omega)
 have hgB:g < B:=e5
 have C331:Hid (∀w1 cv,WtAt B wb { q with cv:=cv } H (C++Lib.uvarint n) w1→Fr (Rw wb q) w w1→Calls Tryz.prog 331 #[.pointer (some ⟨wb,0,none⟩),.int .i64 n,.slice (some ⟨g,o,none⟩) N c] w1 (WpPost B wb { q with cv:=cv } (lastQ ps Q xs) H (C++Lib.uvarint n++rowE ps Q xs) w1)):=fun w1 cv h1 f=>wp331 h1 (ho.with cv) hrf hQ hn hx hsm e1 (fun hr=>by have h9:=(h1.own_ge g hr).1;omega) (fun j u hu=>f.cell (e4 j u (by rw[List.map_map];exact hu)) (fun hr=>by have h9:=(h.own_ge g hr).1;omega)) hC
 have H0:=zH h
 have hI:IntKind.u64.wrap (n:Int)=(n:Int):=by simp[IntKind.wrap,IntKind.bits,IntKind.signed];omega
 have HQ1:Hid (∀cv0 cv rf ok mn mx,({ q with cv:=cv0 }:Wt).on cv rf ok mn mx=q.on cv rf ok mn mx):=fun _ _ _ _ _ _=>rfl
 clear h ho hpl hrf hQ hx hsm hC e1 e3 e4 e5 hNq hqq hd
 go_enter Tryz.func279,Tryz.ntmps279
 go_upto_region 1 with fail
 have b0:=zN w (.cells #[.int .u8 d,.slice (some ⟨g,o,none⟩) N c] 121)
 obtain⟨w0,hw0⟩:∃w0,w0=w.alloc (.cells #[.int .u8 d,.slice (some ⟨g,o,none⟩) N c] 121):=⟨_,rfl⟩
 rw[←hw0] at b0 ⊢
 have F0:Hid (ZF w w0):=by show Fr _ _ _;rw[hw0];exact (Fr.refl _ w).alloc _
 obtain⟨q0,q1,_⟩:=lm_cells b0
 clear hw0 b0
 go_upto_region 2 with (go_at_call 136;refine (C136.out _ _ _ _ _ _).mono ?_;rintro e w1 ⟨rfl,hw1⟩;have F1:Hid (ZF w w1):=(by show Fr _ _ _;rw[hw1];exact (F0.out.alloc _).alloc _);clear hw1)
 have b2:=zN w1 (.cells #[.int .u8 d,.slice (some ⟨g,o,none⟩) N c] 119)
 obtain⟨w2,hw2⟩:∃w2,w2=w1.alloc (.cells #[.int .u8 d,.slice (some ⟨g,o,none⟩) N c] 119):=⟨_,rfl⟩
 rw[←hw2] at b2 ⊢
 have F2:Hid (ZF w w2):=by show Fr _ _ _;rw[hw2];exact F1.out.alloc _
 have B2:=zH b2
 obtain⟨q0,q1,_⟩:=lm_cells b2
 obtain⟨tb,htb⟩:∃tb,tb=w1.heap.size:=⟨_,rfl⟩
 rw[←htb] at B2 q0 q1 ⊢
 have HTB:Hid (w.heap.size≤tb):=by have:=F1.out.size;show _≤_;omega
 clear hw2 b2 htb
 go_upto_region 3 with (go_at_call 156;refine (C156.out _).mono ?_;rintro e w3 ⟨rfl,f3⟩;have F3:=zH f3;clear f3)
 have HW3:=zH (H0.out.keep (F2.out.trans F3.out))
 go_wp2_with (first|(go_at_call 281;(with_reducible refine (C281.out _ HW3.out).mono ?_);rintro e w4 ⟨rfl,cv,hp⟩;obtain⟨q0,q1,_⟩:=lm_cells ((hp.out.2.fr.block _ (zG ((F3.out.block _ (zG B2.out).1 (fun h=>h)).trans B2.out)).1 (fun hr=>by have h8:=(H0.out.own_ge tb hr).2;have h9:=HTB.out;omega)).trans ((F3.out.block _ (zG B2.out).1 (fun h=>h)).trans B2.out)))|(go_at_call 331;(with_reducible refine (C331.out _ cv hp.out.1 ((F2.out.trans F3.out).weak (fun _ h=>h.elim) |>.trans hp.out.2.fr)).mono ?_);rintro e w5 hp5;have HP5:=zH hp5;obtain⟨rfl,hq5⟩:=hp5;clear hq5))
 go_end0
 exact HP5.out.after ((Ch.of (F2.out.trans F3.out)).trans hp.out.2) (HQ1.out cv)
theorem wr333{B wb:Nat}{q:Wt}{H C:List UInt8}{w:World}(h:WtAt B wb q H C w){d:Nat}(hd:d≤3){ps Q:List Int}(ho:WcOk q ps)(hpl:ps.length=wd d)(hrf:RfOk q.rf Q)(hQ:QOk ps Q){n:Nat}(hn0:0 < n)(hn:n≤5000){xs:List (Int × Int)}(hx:WR ps n xs)(hsm:∀x∈xs,x.2.natAbs < 35184372088832){g o N c:Nat}(hE:LnE d (fun b=>b < B) w [.int .u8 d,.slice (some ⟨g,o,none⟩) N c] (xs.map flp))(hC:(C++lineE ps Q xs).length≤10000000000000):
  Calls Tryz.prog 333 #[.pointer (some ⟨wb,0,none⟩),.agg #[.int .u8 d,.slice (some ⟨g,o,none⟩) N c]] w (WpPost B wb q (lastQ ps Q xs) H (C++lineE ps Q xs) w):=by
 obtain⟨ga,oa,na,ca,e,e1,_,_,_,e3,e5,e4⟩:=hE
 simp only[List.cons.injEq,Value.slice.injEq,Option.some.injEq,Addr.mk.injEq,and_true,true_and] at e
 obtain⟨⟨rfl,rfl⟩,rfl,rfl⟩:=e
 rw[List.length_map] at e1
 have hNq:N=n*wd d:=by rw[e1,hx.len,hpl]
 have hqq:xs.length / ps.length=n:=by rw[hx.len];exact Nat.mul_div_cancel _ (by have:=ho.lo;omega)
 have C156:Hid (∀w1,Calls Tryz.prog 156 #[.agg #[.int .u8 d,.slice (some ⟨g,o,none⟩) N c]] w1 fun e w'=>e=.returned (.int .i64 n)∧ZF w1 w'):=fun w1=>ac156 d hd g o N c n w1 hNq (by omega)
 have C136:=zH ac136
 unfold lineE at hC ⊢
 rw[hqq,←List.append_assoc] at hC ⊢
 have C281:Hid (∀w1,WtAt B wb q H C w1→Calls Tryz.prog 281 #[.pointer (some ⟨wb,0,none⟩),.int .u64 n] w1 (WrPost B wb q H (C++Lib.uvarint n) w1)):=fun w1 h1=>uv281 h1 n (by omega) (by rw[List.length_append] at hC;omega)
 have hgB:g < B:=e5
 have C331:Hid (∀w1 cv,WtAt B wb { q with cv:=cv } H (C++Lib.uvarint n) w1→Fr (Rw wb q) w w1→Calls Tryz.prog 331 #[.pointer (some ⟨wb,0,none⟩),.int .i64 n,.slice (some ⟨g,o,none⟩) N c] w1 (WpPost B wb { q with cv:=cv } (lastQ ps Q xs) H (C++Lib.uvarint n++rowE ps Q xs) w1)):=fun w1 cv h1 f=>wp331 h1 (ho.with cv) hrf hQ hn hx hsm e1 (fun hr=>by have h9:=(h1.own_ge g hr).1;omega) (fun j u hu=>f.cell (e4 j u (by rw[List.map_map];exact hu)) (fun hr=>by have h9:=(h.own_ge g hr).1;omega)) hC
 have H0:=zH h
 have hI:IntKind.u64.wrap (n:Int)=(n:Int):=by simp[IntKind.wrap,IntKind.bits,IntKind.signed];omega
 have HQ1:Hid (∀cv0 cv rf ok mn mx,({ q with cv:=cv0 }:Wt).on cv rf ok mn mx=q.on cv rf ok mn mx):=fun _ _ _ _ _ _=>rfl
 clear h ho hpl hrf hQ hx hsm hC e1 e3 e4 e5 hNq hqq hd
 go_enter Tryz.func333,Tryz.ntmps333
 go_upto_region 1 with fail
 have b0:=zN w (.cells #[.int .u8 d,.slice (some ⟨g,o,none⟩) N c] 121)
 obtain⟨w0,hw0⟩:∃w0,w0=w.alloc (.cells #[.int .u8 d,.slice (some ⟨g,o,none⟩) N c] 121):=⟨_,rfl⟩
 rw[←hw0] at b0 ⊢
 have F0:Hid (ZF w w0):=by show Fr _ _ _;rw[hw0];exact (Fr.refl _ w).alloc _
 obtain⟨q0,q1,_⟩:=lm_cells b0
 clear hw0 b0
 go_upto_region 2 with (go_at_call 136;refine (C136.out _ _ _ _ _ _).mono ?_;rintro e w1 ⟨rfl,hw1⟩;have F1:Hid (ZF w w1):=(by show Fr _ _ _;rw[hw1];exact (F0.out.alloc _).alloc _);clear hw1)
 have b2:=zN w1 (.cells #[.int .u8 d,.slice (some ⟨g,o,none⟩) N c] 119)
 obtain⟨w2,hw2⟩:∃w2,w2=w1.alloc (.cells #[.int .u8 d,.slice (some ⟨g,o,none⟩) N c] 119):=⟨_,rfl⟩
 rw[←hw2] at b2 ⊢
 have F2:Hid (ZF w w2):=by show Fr _ _ _;rw[hw2];exact F1.out.alloc _
 have B2:=zH b2
 obtain⟨q0,q1,_⟩:=lm_cells b2
 obtain⟨tb,htb⟩:∃tb,tb=w1.heap.size:=⟨_,rfl⟩
 rw[←htb] at B2 q0 q1 ⊢
 have HTB:Hid (w.heap.size≤tb):=by have:=F1.out.size;show _≤_;omega
 clear hw2 b2 htb
 go_upto_region 3 with (go_at_call 156;refine (C156.out _).mono ?_;rintro e w3 ⟨rfl,f3⟩;have F3:=zH f3;clear f3)
 have HW3:=zH (H0.out.keep (F2.out.trans F3.out))
 have c34:w3.cell? ⟨wb,34,none⟩=some (.bool true):=HW3.out.c 34
 go_wp2_with (first|(go_at_call 281;(with_reducible refine (C281.out _ HW3.out).mono ?_);rintro e w4 ⟨rfl,cv,hp⟩;obtain⟨q0,q1,_⟩:=lm_cells ((hp.out.2.fr.block _ (zG ((F3.out.block _ (zG B2.out).1 (fun h=>h)).trans B2.out)).1 (fun hr=>by have h8:=(H0.out.own_ge tb hr).2;have h9:=HTB.out;omega)).trans ((F3.out.block _ (zG B2.out).1 (fun h=>h)).trans B2.out)))|(go_at_call 331;(with_reducible refine (C331.out _ cv hp.out.1 ((F2.out.trans F3.out).weak (fun _ h=>h.elim) |>.trans hp.out.2.fr)).mono ?_);rintro e w5 hp5;have HP5:=zH hp5;obtain⟨rfl,hq5⟩:=hp5;clear hq5))
 go_end0
 exact HP5.out.after ((Ch.of (F2.out.trans F3.out)).trans hp.out.2) (HQ1.out cv)
end Go.Proofs.YtnjjgbcmjnfijaaGreatDoor
