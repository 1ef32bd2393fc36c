/- The package's reader of tiny bytes: the box ahead. No condition. -/
import Derived.Test.YtnjjgbcmjnfijaaGreatDoorRh
namespace Go.Proofs.YtnjjgbcmjnfijaaGreatDoor
set_option maxRecDepth 100000
set_option maxHeartbeats 4000000
open Go.RowKit
structure BxW (pb g cap n dm:Nat) (hz hm:Bool) (ds:List Int) (sc:Nat→Nat) (w:World):Prop where
 bv:w.cell? ⟨pb,19,none⟩=some (.slice (some ⟨g,0,none⟩) n cap)
 dm:w.cell? ⟨pb,3,none⟩=some (.int .u8 dm)
 hz:w.cell? ⟨pb,6,none⟩=some (.bool hz)
 hm:w.cell? ⟨pb,7,none⟩=some (.bool hm)
 sc:∀i,i < 4→w.cell? ⟨pb,10+i,none⟩=some (.float .f64 (sc i))
 row:∀(i:Nat) (d:Int),ds[i]?=some d→w.cell? ⟨g,i,none⟩=some (.int .i64 d)
theorem BxW.keep{pb g cap n dm:Nat}{hz hm:Bool}{ds:List Int}{sc:Nat→Nat}{R:Nat→Prop}{w w':World}(h:BxW pb g cap n dm hz hm ds sc w)(f:Fr R w w')(h1:¬R pb)(h2:¬R g):BxW pb g cap n dm hz hm ds sc w' :=
 ⟨f.cell h.bv h1,f.cell h.dm h1,f.cell h.hz h1,f.cell h.hm h1,fun i hi=>f.cell (h.sc i hi) h1,fun i d hd=>f.cell (h.row i d hd) h2⟩
theorem bx_quo{d:Int}{S p:Nat}(hd : -72057594037927936≤d∧d≤72057594037927936)(hp:p≤7)(hS:S=floatOfInt .f64 ((10 ^ p:Nat):Int)):∃L:Nat,∀t w,(binOp .quo t (.float .f64 (floatOfInt .f64 d)) (.float .f64 S)).run Tryz.prog w=.ok (.float .f64 L) w :=
 ⟨vl d p,fun t w=>run_float_arith w .quo t .f64 _ _ _ (by rw[hS];exact vl_eq d p (by omega) (by omega))⟩
theorem bx_add{a b:Int}(ha : -18014398509481984≤a∧a≤18014398509481984)(hb : -18014398509481984≤b∧b≤18014398509481984):IntKind.i64.wrap (a+b)=a+b:=by
 simp[IntKind.wrap,IntKind.bits,IntKind.signed]
 omega
theorem own_row{w:World}{B e n:Nat}{v:Value}{g c:Nat}{ds:List Int}(h:w.ownsRow B e 1 v n (ds.map iv))(hv:v=.slice (some ⟨g,0,none⟩) n c)(i:Nat)(d:Int)(hd:ds[i]?=some d):w.cell? ⟨g,i,none⟩=some (.int .i64 d):=by
 rcases h.2 with ⟨h1,_⟩|⟨g',cap,cur,h1,h2,h3,_,_,_,h7⟩
 ·rw[hv] at h1;cases h1
 ·rw[hv] at h1
  cases h1
  have h8:(ds.map iv)[i]?=some (iv d):=by rw[List.getElem?_map,hd];rfl
  rw[←h7,List.getElem?_take] at h8
  split at h8
  ·rw[zC h3,←Array.getElem?_toList];exact h8
  ·cases h8
theorem al_new2(w:World)(A B:Obj)(C:Array Value):∀t,(((w.alloc A).alloc B).alloc (.cells C t)).heap[w.heap.size+1+1]?=some (.cells C t (0,0)):=by
 intro t
 have h1:((w.alloc A).alloc B).heap.size=w.heap.size+1+1:=by show ((w.heap.push _).push _).size=_;rw[Array.size_push,Array.size_push]
 rw[←h1]
 exact zN _ _
theorem ds_of4{ds:List Int}(h:ds.length=2*2):∃a b c d,ds=[a,b,c,d]:=by
 match ds,h with
 | [a,b,c,d],_=>exact⟨a,b,c,d,rfl⟩
theorem ds_of6{ds:List Int}(h:ds.length=2*3):∃a b c d e f,ds=[a,b,c,d,e,f]:=by
 match ds,h with
 | [a,b,c,d,e,f],_=>exact⟨a,b,c,d,e,f,rfl⟩
theorem ds_of8{ds:List Int}(h:ds.length=2*4):∃a b c d e f g i,ds=[a,b,c,d,e,f,g,i]:=by
 match ds,h with
 | [a,b,c,d,e,f,g,i],_=>exact⟨a,b,c,d,e,f,g,i,rfl⟩
def BxPost (pb d:Nat) (w:World) (e:Ending) (w':World):Prop :=
 ∃g x0 y0 z0 m0 x1 y1 z1 m1:Nat,e=.returned (.tuple #[.slice (some ⟨g,0,none⟩) 2 2,.nilIface])∧Hid (Fr (Eq pb) w w'∧w.heap.size≤g∧w'.heap[g]?=some (.cells #[.float .f64 x0,.float .f64 y0,.float .f64 z0,.float .f64 m0,.int .u8 d,.bool true,.float .f64 x1,.float .f64 y1,.float .f64 z1,.float .f64 m1,.int .u8 d,.bool true] 115 (0,0)))
theorem box131_0{pb tb tf tc:Nat}{T:List UInt8}{p:Pr}{w:World}(h:PrAt pb tb tf tc T p w)(htw:tb < w.heap.size)(ht:TenTab w)(hp3:3≤pb)(h0:Pr0 p){k c:Nat}{xy:Int}{ps:List Int}{l0:List UInt8}(hh:HeadP T k c 0 xy ps l0)(hxy:0≤xy)(hbb:(c % 2 == 1)=true):
  Calls Tryz.prog 131 #[.pointer (some ⟨pb,0,none⟩)] w (BxPost pb 0 w):=by
 have hpb:=h.lt
 have C115:=zH (head115 h htw ht hp3 h0 hh hxy)
 have HBB:=zH hbb
 have hsf:=st_fl
 clear h ht h0 hh hxy hbb
 go_enter Tryz.func131,Tryz.ntmps131
 go_upto_region 2 with (go_at_call 115;refine C115.out.mono ?_;rintro e w1 ⟨rfl,p1,h1⟩)
 have c14:=h1.out.1.c14
 rw[h1.out.2.2.1.bb,HBB.out] at c14
 obtain⟨g,cap,ds,hbv,hdl,hown,hbd⟩:=h1.out.2.2.2.2 (h1.out.2.2.1.bb.trans HBB.out)
 have hpl:ps.length=2:=by rw[h1.out.2.2.1.ok.wd,h1.out.2.2.1.dm];rfl
 rw[hpl] at hbv hdl hown
 obtain⟨D0,D1,D2,D3,rfl⟩:∃D0 D1 D2 D3:Int,ds=[D0,D1,D2,D3]:=ds_of4 hdl
 have HB1:Hid (BxW pb g cap 4 0 false false [D0,D1,D2,D3] p1.sc w1):=⟨by have:=h1.out.1.c19;rw[hbv] at this;exact this,by have:=h1.out.1.c3;rw[h1.out.2.2.1.dm] at this;exact this,by have:=h1.out.1.c6;rw[h1.out.2.2.1.ok.hz,h1.out.2.2.1.dm] at this;exact this,by have:=h1.out.1.c7;rw[h1.out.2.2.1.ok.hm,h1.out.2.2.1.dm] at this;exact this,fun i hi=>h1.out.1.sc4 i hi,own_row hown hbv⟩
 have hd0:=hbd D0 (by simp)
 have hd1:=hbd D1 (by simp)
 have hd2:=hbd D2 (by simp)
 have hd3:=hbd D3 (by simp)
 obtain⟨L0,hL0⟩:=bx_quo (d:=D0) (S:=p1.sc 0) (p:=(ps[0]'(by omega)).toNat) (by omega) (by have:=h1.out.2.2.1.sc.bd (ps[0]'(by omega)) (List.getElem_mem _);omega) (h1.out.2.2.1.sc.sc 0 (by omega))
 obtain⟨E0,hE0⟩:∃E,E=D0+D1:=⟨_,rfl⟩
 have ea0:IntKind.i64.wrap (D0+D1)=E0:=by rw[hE0];exact bx_add hd0 hd1
 obtain⟨U0,hU0⟩:=bx_quo (d:=E0) (S:=p1.sc 0) (p:=(ps[0]'(by omega)).toNat) (by omega) (by have:=h1.out.2.2.1.sc.bd (ps[0]'(by omega)) (List.getElem_mem _);omega) (h1.out.2.2.1.sc.sc 0 (by omega))
 obtain⟨L1,hL1⟩:=bx_quo (d:=D2) (S:=p1.sc 1) (p:=(ps[1]'(by omega)).toNat) (by omega) (by have:=h1.out.2.2.1.sc.bd (ps[1]'(by omega)) (List.getElem_mem _);omega) (h1.out.2.2.1.sc.sc 1 (by omega))
 obtain⟨E1,hE1⟩:∃E,E=D2+D3:=⟨_,rfl⟩
 have ea1:IntKind.i64.wrap (D2+D3)=E1:=by rw[hE1];exact bx_add hd2 hd3
 obtain⟨U1,hU1⟩:=bx_quo (d:=E1) (S:=p1.sc 1) (p:=(ps[1]'(by omega)).toNat) (by omega) (by have:=h1.out.2.2.1.sc.bd (ps[1]'(by omega)) (List.getElem_mem _);omega) (h1.out.2.2.1.sc.sc 1 (by omega))
 have F1:=zH h1.out.2.1
 obtain⟨S,hS⟩:∃S,S=p1.sc:=⟨_,rfl⟩
 rw[←hS] at hL0 hU0 hL1 hU1
 have HS:=zH hS
 have HB1:Hid (BxW pb g cap 4 0 false false [D0,D1,D2,D3] S w1):=by rw[HS.out];exact HB1
 clear hbv hdl hown hbd hpl hS HBB hd0 hd1 hd2 hd3 hE0 hE1
 have c6:=HB1.out.hz
 have c7:=HB1.out.hm
 have c3:=HB1.out.dm
 have c19:=HB1.out.bv
 go_upto_region 6 with fail
 have cs:=HB1.out.sc 0 (by decide)
 have r0:=HB1.out.row 0 D0 rfl
 go_quiet (fail)
 generalize hw:w1.drewN _=v0
 have f:ZF w1 v0:=by rw[←hw];exact (Fr.refl _ w1).drewN _
 have G0:=zH (HB1.out.keep f (fun h=>h) (fun h=>h))
 have X0:=zH f
 clear hw f cs c19 c3 c6 c7 r0
 have c19:=G0.out.bv
 have c3:=G0.out.dm
 have c6:=G0.out.hz
 have c7:=G0.out.hm
 go_upto_region 7 with fail
 have cs:=G0.out.sc 1 (by decide)
 have r2:=G0.out.row 2 D2 rfl
 go_quiet (fail)
 generalize hw:v0.drewN _=v1
 have f:ZF v0 v1:=by rw[←hw];exact (Fr.refl _ v0).drewN _
 have G1:=zH (G0.out.keep f (fun h=>h) (fun h=>h))
 have X1:=zH f
 clear hw f cs c19 c3 c6 c7 r2
 have c19:=G1.out.bv
 have c3:=G1.out.dm
 have c6:=G1.out.hz
 have c7:=G1.out.hm
 go_upto_region 8 with fail
 have cs:=G1.out.sc 0 (by decide)
 have r0:=G1.out.row 0 D0 rfl
 have r1:=G1.out.row 1 D1 rfl
 go_quiet (fail)
 generalize hw:v1.drewN _=v2
 have f:ZF v1 v2:=by rw[←hw];exact (Fr.refl _ v1).drewN _
 have G2:=zH (G1.out.keep f (fun h=>h) (fun h=>h))
 have X2:=zH f
 clear hw f cs c19 c3 c6 c7 r0 r1
 have c19:=G2.out.bv
 have c3:=G2.out.dm
 have c6:=G2.out.hz
 have c7:=G2.out.hm
 go_upto_region 9 with fail
 have cs:=G2.out.sc 1 (by decide)
 have r2:=G2.out.row 2 D2 rfl
 have r3:=G2.out.row 3 D3 rfl
 go_quiet (fail)
 generalize hw:v2.drewN _=v3
 have f:ZF v2 v3:=by rw[←hw];exact (Fr.refl _ v2).drewN _
 have G3:=zH (G2.out.keep f (fun h=>h) (fun h=>h))
 have X3:=zH f
 clear hw f cs c19 c3 c6 c7 r2 r3
 have c19:=G3.out.bv
 have c3:=G3.out.dm
 have c6:=G3.out.hz
 have c7:=G3.out.hm
 have C159:=zH ac159
 clear c6 c7 c19
 go_upto_region 11 with (go_at_call 159;refine (C159.out _ _ _ _ _ _).mono ?_;rintro e wx ⟨rfl,rfl⟩)
 obtain⟨hA,hhA⟩:∃h,h=v3.heap.size+1+1:=⟨_,rfl⟩
 rw[←hhA]
 generalize hw:(((v3.alloc _).alloc _).alloc _)=vA
 have bA:vA.heap[hA]?=some (.cells #[.float .f64 L0,.float .f64 L1,.float .f64 0,.float .f64 0,.int .u8 0,.bool true] 115 (0,0)):=by rw[←hw,hhA];exact al_new2 _ _ _ _ _
 have fA:ZF v3 vA:=by rw[←hw];exact (((Fr.refl _ _).alloc _).alloc _).alloc _
 have c3A:=fA.cell c3 (fun h=>h)
 have hszA:=fA.size
 have HA:=zH (⟨hhA,fA,bA⟩:_∧_∧_)
 clear hw c3 bA fA hhA
 go_upto_region 12 with (go_at_call 159;refine (C159.out _ _ _ _ _ _).mono ?_;rintro e wx ⟨rfl,rfl⟩)
 obtain⟨hB,hhB⟩:∃h,h=vA.heap.size+1+1:=⟨_,rfl⟩
 rw[←hhB]
 generalize hw:(((vA.alloc _).alloc _).alloc _)=vB
 have bB:vB.heap[hB]?=some (.cells #[.float .f64 U0,.float .f64 U1,.float .f64 0,.float .f64 0,.int .u8 0,.bool true] 115 (0,0)):=by rw[←hw,hhB];exact al_new2 _ _ _ _ _
 have fB:ZF vA vB:=by rw[←hw];exact (((Fr.refl _ _).alloc _).alloc _).alloc _
 have bA:=HA.out.2.2
 have bA':=(fB.block hA (zG bA).1 (fun h=>h)).trans bA
 have hszB:=fB.size
 clear hw c3A bA
 have a0:vB.cell? ⟨hA,0,none⟩=some (.float .f64 L0):=by rw[zC bA'];rfl
 have a1:vB.cell? ⟨hA,1,none⟩=some (.float .f64 L1):=by rw[zC bA'];rfl
 have a2:vB.cell? ⟨hA,2,none⟩=some (.float .f64 0):=by rw[zC bA'];rfl
 have a3:vB.cell? ⟨hA,3,none⟩=some (.float .f64 0):=by rw[zC bA'];rfl
 have a4:vB.cell? ⟨hA,4,none⟩=some (.int .u8 0):=by rw[zC bA'];rfl
 have a5:vB.cell? ⟨hA,5,none⟩=some (.bool true):=by rw[zC bA'];rfl
 have b0:vB.cell? ⟨hB,0,none⟩=some (.float .f64 U0):=by rw[zC bB];rfl
 have b1:vB.cell? ⟨hB,1,none⟩=some (.float .f64 U1):=by rw[zC bB];rfl
 have b2:vB.cell? ⟨hB,2,none⟩=some (.float .f64 0):=by rw[zC bB];rfl
 have b3:vB.cell? ⟨hB,3,none⟩=some (.float .f64 0):=by rw[zC bB];rfl
 have b4:vB.cell? ⟨hB,4,none⟩=some (.int .u8 0):=by rw[zC bB];rfl
 have b5:vB.cell? ⟨hB,5,none⟩=some (.bool true):=by rw[zC bB];rfl
 have HB:=zH (⟨hhB,fB⟩:_∧_)
 clear bA' bB hhB fB
 go_wp2_with fail
 refine bodyPost_ret (v:=.tuple #[.slice (some ⟨vB.heap.size,0,none⟩) 2 2,.nilIface]) (by simp[results,Tryz.f131,go_sem]) rfl ?_
 have hf:=((((((F1.out.trans (X0.out.weak (fun _ h=>h.elim))).trans (X1.out.weak (fun _ h=>h.elim))).trans (X2.out.weak (fun _ h=>h.elim))).trans (X3.out.weak (fun _ h=>h.elim))).trans (HA.out.2.1.weak (fun _ h=>h.elim))).trans (HB.out.2.weak (fun _ h=>h.elim)))
 refine⟨vB.heap.size,L0,L1,0,0,U0,U1,0,0,rfl,zH ⟨hf.trans ((Fr.refl _ vB).alloc _),hf.size,zN _ _⟩⟩
theorem box131_1{pb tb tf tc:Nat}{T:List UInt8}{p:Pr}{w:World}(h:PrAt pb tb tf tc T p w)(htw:tb < w.heap.size)(ht:TenTab w)(hp3:3≤pb)(h0:Pr0 p){k c:Nat}{xy:Int}{ps:List Int}{l0:List UInt8}(hh:HeadP T k c 1 xy ps l0)(hxy:0≤xy)(hbb:(c % 2 == 1)=true):
  Calls Tryz.prog 131 #[.pointer (some ⟨pb,0,none⟩)] w (BxPost pb 1 w):=by
 have hpb:=h.lt
 have C115:=zH (head115 h htw ht hp3 h0 hh hxy)
 have HBB:=zH hbb
 have hsf:=st_fl
 clear h ht h0 hh hxy hbb
 go_enter Tryz.func131,Tryz.ntmps131
 go_upto_region 2 with (go_at_call 115;refine C115.out.mono ?_;rintro e w1 ⟨rfl,p1,h1⟩)
 have c14:=h1.out.1.c14
 rw[h1.out.2.2.1.bb,HBB.out] at c14
 obtain⟨g,cap,ds,hbv,hdl,hown,hbd⟩:=h1.out.2.2.2.2 (h1.out.2.2.1.bb.trans HBB.out)
 have hpl:ps.length=3:=by rw[h1.out.2.2.1.ok.wd,h1.out.2.2.1.dm];rfl
 rw[hpl] at hbv hdl hown
 obtain⟨D0,D1,D2,D3,D4,D5,rfl⟩:∃D0 D1 D2 D3 D4 D5:Int,ds=[D0,D1,D2,D3,D4,D5]:=ds_of6 hdl
 have HB1:Hid (BxW pb g cap 6 1 true false [D0,D1,D2,D3,D4,D5] p1.sc w1):=⟨by have:=h1.out.1.c19;rw[hbv] at this;exact this,by have:=h1.out.1.c3;rw[h1.out.2.2.1.dm] at this;exact this,by have:=h1.out.1.c6;rw[h1.out.2.2.1.ok.hz,h1.out.2.2.1.dm] at this;exact this,by have:=h1.out.1.c7;rw[h1.out.2.2.1.ok.hm,h1.out.2.2.1.dm] at this;exact this,fun i hi=>h1.out.1.sc4 i hi,own_row hown hbv⟩
 have hd0:=hbd D0 (by simp)
 have hd1:=hbd D1 (by simp)
 have hd2:=hbd D2 (by simp)
 have hd3:=hbd D3 (by simp)
 have hd4:=hbd D4 (by simp)
 have hd5:=hbd D5 (by simp)
 obtain⟨L0,hL0⟩:=bx_quo (d:=D0) (S:=p1.sc 0) (p:=(ps[0]'(by omega)).toNat) (by omega) (by have:=h1.out.2.2.1.sc.bd (ps[0]'(by omega)) (List.getElem_mem _);omega) (h1.out.2.2.1.sc.sc 0 (by omega))
 obtain⟨E0,hE0⟩:∃E,E=D0+D1:=⟨_,rfl⟩
 have ea0:IntKind.i64.wrap (D0+D1)=E0:=by rw[hE0];exact bx_add hd0 hd1
 obtain⟨U0,hU0⟩:=bx_quo (d:=E0) (S:=p1.sc 0) (p:=(ps[0]'(by omega)).toNat) (by omega) (by have:=h1.out.2.2.1.sc.bd (ps[0]'(by omega)) (List.getElem_mem _);omega) (h1.out.2.2.1.sc.sc 0 (by omega))
 obtain⟨L1,hL1⟩:=bx_quo (d:=D2) (S:=p1.sc 1) (p:=(ps[1]'(by omega)).toNat) (by omega) (by have:=h1.out.2.2.1.sc.bd (ps[1]'(by omega)) (List.getElem_mem _);omega) (h1.out.2.2.1.sc.sc 1 (by omega))
 obtain⟨E1,hE1⟩:∃E,E=D2+D3:=⟨_,rfl⟩
 have ea1:IntKind.i64.wrap (D2+D3)=E1:=by rw[hE1];exact bx_add hd2 hd3
 obtain⟨U1,hU1⟩:=bx_quo (d:=E1) (S:=p1.sc 1) (p:=(ps[1]'(by omega)).toNat) (by omega) (by have:=h1.out.2.2.1.sc.bd (ps[1]'(by omega)) (List.getElem_mem _);omega) (h1.out.2.2.1.sc.sc 1 (by omega))
 obtain⟨L2,hL2⟩:=bx_quo (d:=D4) (S:=p1.sc 2) (p:=(ps[2]'(by omega)).toNat) (by omega) (by have:=h1.out.2.2.1.sc.bd (ps[2]'(by omega)) (List.getElem_mem _);omega) (h1.out.2.2.1.sc.sc 2 (by omega))
 obtain⟨E2,hE2⟩:∃E,E=D4+D5:=⟨_,rfl⟩
 have ea2:IntKind.i64.wrap (D4+D5)=E2:=by rw[hE2];exact bx_add hd4 hd5
 obtain⟨U2,hU2⟩:=bx_quo (d:=E2) (S:=p1.sc 2) (p:=(ps[2]'(by omega)).toNat) (by omega) (by have:=h1.out.2.2.1.sc.bd (ps[2]'(by omega)) (List.getElem_mem _);omega) (h1.out.2.2.1.sc.sc 2 (by omega))
 have F1:=zH h1.out.2.1
 obtain⟨S,hS⟩:∃S,S=p1.sc:=⟨_,rfl⟩
 rw[←hS] at hL0 hU0 hL1 hU1 hL2 hU2
 have HS:=zH hS
 have HB1:Hid (BxW pb g cap 6 1 true false [D0,D1,D2,D3,D4,D5] S w1):=by rw[HS.out];exact HB1
 clear hbv hdl hown hbd hpl hS HBB hd0 hd1 hd2 hd3 hd4 hd5 hE0 hE1 hE2
 have c6:=HB1.out.hz
 have c7:=HB1.out.hm
 have c3:=HB1.out.dm
 have c19:=HB1.out.bv
 go_upto_region 26 with fail
 have cs:=HB1.out.sc 0 (by decide)
 have r0:=HB1.out.row 0 D0 rfl
 go_quiet (fail)
 generalize hw:w1.drewN _=v0
 have f:ZF w1 v0:=by rw[←hw];exact (Fr.refl _ w1).drewN _
 have G0:=zH (HB1.out.keep f (fun h=>h) (fun h=>h))
 have X0:=zH f
 clear hw f cs c19 c3 c6 c7 r0
 have c19:=G0.out.bv
 have c3:=G0.out.dm
 have c6:=G0.out.hz
 have c7:=G0.out.hm
 go_upto_region 27 with fail
 have cs:=G0.out.sc 1 (by decide)
 have r2:=G0.out.row 2 D2 rfl
 go_quiet (fail)
 generalize hw:v0.drewN _=v1
 have f:ZF v0 v1:=by rw[←hw];exact (Fr.refl _ v0).drewN _
 have G1:=zH (G0.out.keep f (fun h=>h) (fun h=>h))
 have X1:=zH f
 clear hw f cs c19 c3 c6 c7 r2
 have c19:=G1.out.bv
 have c3:=G1.out.dm
 have c6:=G1.out.hz
 have c7:=G1.out.hm
 go_upto_region 28 with fail
 have cs:=G1.out.sc 2 (by decide)
 have r4:=G1.out.row 4 D4 rfl
 go_quiet (fail)
 generalize hw:v1.drewN _=v2
 have f:ZF v1 v2:=by rw[←hw];exact (Fr.refl _ v1).drewN _
 have G2:=zH (G1.out.keep f (fun h=>h) (fun h=>h))
 have X2:=zH f
 clear hw f cs c19 c3 c6 c7 r4
 have c19:=G2.out.bv
 have c3:=G2.out.dm
 have c6:=G2.out.hz
 have c7:=G2.out.hm
 go_upto_region 29 with fail
 have cs:=G2.out.sc 0 (by decide)
 have r0:=G2.out.row 0 D0 rfl
 have r1:=G2.out.row 1 D1 rfl
 go_quiet (fail)
 generalize hw:v2.drewN _=v3
 have f:ZF v2 v3:=by rw[←hw];exact (Fr.refl _ v2).drewN _
 have G3:=zH (G2.out.keep f (fun h=>h) (fun h=>h))
 have X3:=zH f
 clear hw f cs c19 c3 c6 c7 r0 r1
 have c19:=G3.out.bv
 have c3:=G3.out.dm
 have c6:=G3.out.hz
 have c7:=G3.out.hm
 go_upto_region 30 with fail
 have cs:=G3.out.sc 1 (by decide)
 have r2:=G3.out.row 2 D2 rfl
 have r3:=G3.out.row 3 D3 rfl
 go_quiet (fail)
 generalize hw:v3.drewN _=v4
 have f:ZF v3 v4:=by rw[←hw];exact (Fr.refl _ v3).drewN _
 have G4:=zH (G3.out.keep f (fun h=>h) (fun h=>h))
 have X4:=zH f
 clear hw f cs c19 c3 c6 c7 r2 r3
 have c19:=G4.out.bv
 have c3:=G4.out.dm
 have c6:=G4.out.hz
 have c7:=G4.out.hm
 go_upto_region 31 with fail
 have cs:=G4.out.sc 2 (by decide)
 have r4:=G4.out.row 4 D4 rfl
 have r5:=G4.out.row 5 D5 rfl
 go_quiet (fail)
 generalize hw:v4.drewN _=v5
 have f:ZF v4 v5:=by rw[←hw];exact (Fr.refl _ v4).drewN _
 have G5:=zH (G4.out.keep f (fun h=>h) (fun h=>h))
 have X5:=zH f
 clear hw f cs c19 c3 c6 c7 r4 r5
 have c19:=G5.out.bv
 have c3:=G5.out.dm
 have c6:=G5.out.hz
 have c7:=G5.out.hm
 have C159:=zH ac159
 clear c6 c7 c19
 go_upto_region 33 with (go_at_call 159;refine (C159.out _ _ _ _ _ _).mono ?_;rintro e wx ⟨rfl,rfl⟩)
 obtain⟨hA,hhA⟩:∃h,h=v5.heap.size+1+1:=⟨_,rfl⟩
 rw[←hhA]
 generalize hw:(((v5.alloc _).alloc _).alloc _)=vA
 have bA:vA.heap[hA]?=some (.cells #[.float .f64 L0,.float .f64 L1,.float .f64 L2,.float .f64 0,.int .u8 1,.bool true] 115 (0,0)):=by rw[←hw,hhA];exact al_new2 _ _ _ _ _
 have fA:ZF v5 vA:=by rw[←hw];exact (((Fr.refl _ _).alloc _).alloc _).alloc _
 have c3A:=fA.cell c3 (fun h=>h)
 have hszA:=fA.size
 have HA:=zH (⟨hhA,fA,bA⟩:_∧_∧_)
 clear hw c3 bA fA hhA
 go_upto_region 34 with (go_at_call 159;refine (C159.out _ _ _ _ _ _).mono ?_;rintro e wx ⟨rfl,rfl⟩)
 obtain⟨hB,hhB⟩:∃h,h=vA.heap.size+1+1:=⟨_,rfl⟩
 rw[←hhB]
 generalize hw:(((vA.alloc _).alloc _).alloc _)=vB
 have bB:vB.heap[hB]?=some (.cells #[.float .f64 U0,.float .f64 U1,.float .f64 U2,.float .f64 0,.int .u8 1,.bool true] 115 (0,0)):=by rw[←hw,hhB];exact al_new2 _ _ _ _ _
 have fB:ZF vA vB:=by rw[←hw];exact (((Fr.refl _ _).alloc _).alloc _).alloc _
 have bA:=HA.out.2.2
 have bA':=(fB.block hA (zG bA).1 (fun h=>h)).trans bA
 have hszB:=fB.size
 clear hw c3A bA
 have a0:vB.cell? ⟨hA,0,none⟩=some (.float .f64 L0):=by rw[zC bA'];rfl
 have a1:vB.cell? ⟨hA,1,none⟩=some (.float .f64 L1):=by rw[zC bA'];rfl
 have a2:vB.cell? ⟨hA,2,none⟩=some (.float .f64 L2):=by rw[zC bA'];rfl
 have a3:vB.cell? ⟨hA,3,none⟩=some (.float .f64 0):=by rw[zC bA'];rfl
 have a4:vB.cell? ⟨hA,4,none⟩=some (.int .u8 1):=by rw[zC bA'];rfl
 have a5:vB.cell? ⟨hA,5,none⟩=some (.bool true):=by rw[zC bA'];rfl
 have b0:vB.cell? ⟨hB,0,none⟩=some (.float .f64 U0):=by rw[zC bB];rfl
 have b1:vB.cell? ⟨hB,1,none⟩=some (.float .f64 U1):=by rw[zC bB];rfl
 have b2:vB.cell? ⟨hB,2,none⟩=some (.float .f64 U2):=by rw[zC bB];rfl
 have b3:vB.cell? ⟨hB,3,none⟩=some (.float .f64 0):=by rw[zC bB];rfl
 have b4:vB.cell? ⟨hB,4,none⟩=some (.int .u8 1):=by rw[zC bB];rfl
 have b5:vB.cell? ⟨hB,5,none⟩=some (.bool true):=by rw[zC bB];rfl
 have HB:=zH (⟨hhB,fB⟩:_∧_)
 clear bA' bB hhB fB
 go_wp2_with fail
 refine bodyPost_ret (v:=.tuple #[.slice (some ⟨vB.heap.size,0,none⟩) 2 2,.nilIface]) (by simp[results,Tryz.f131,go_sem]) rfl ?_
 have hf:=((((((((F1.out.trans (X0.out.weak (fun _ h=>h.elim))).trans (X1.out.weak (fun _ h=>h.elim))).trans (X2.out.weak (fun _ h=>h.elim))).trans (X3.out.weak (fun _ h=>h.elim))).trans (X4.out.weak (fun _ h=>h.elim))).trans (X5.out.weak (fun _ h=>h.elim))).trans (HA.out.2.1.weak (fun _ h=>h.elim))).trans (HB.out.2.weak (fun _ h=>h.elim)))
 refine⟨vB.heap.size,L0,L1,L2,0,U0,U1,U2,0,rfl,zH ⟨hf.trans ((Fr.refl _ vB).alloc _),hf.size,zN _ _⟩⟩
theorem box131_2{pb tb tf tc:Nat}{T:List UInt8}{p:Pr}{w:World}(h:PrAt pb tb tf tc T p w)(htw:tb < w.heap.size)(ht:TenTab w)(hp3:3≤pb)(h0:Pr0 p){k c:Nat}{xy:Int}{ps:List Int}{l0:List UInt8}(hh:HeadP T k c 2 xy ps l0)(hxy:0≤xy)(hbb:(c % 2 == 1)=true):
  Calls Tryz.prog 131 #[.pointer (some ⟨pb,0,none⟩)] w (BxPost pb 2 w):=by
 have hpb:=h.lt
 have C115:=zH (head115 h htw ht hp3 h0 hh hxy)
 have HBB:=zH hbb
 have hsf:=st_fl
 clear h ht h0 hh hxy hbb
 go_enter Tryz.func131,Tryz.ntmps131
 go_upto_region 2 with (go_at_call 115;refine C115.out.mono ?_;rintro e w1 ⟨rfl,p1,h1⟩)
 have c14:=h1.out.1.c14
 rw[h1.out.2.2.1.bb,HBB.out] at c14
 obtain⟨g,cap,ds,hbv,hdl,hown,hbd⟩:=h1.out.2.2.2.2 (h1.out.2.2.1.bb.trans HBB.out)
 have hpl:ps.length=3:=by rw[h1.out.2.2.1.ok.wd,h1.out.2.2.1.dm];rfl
 rw[hpl] at hbv hdl hown
 obtain⟨D0,D1,D2,D3,D4,D5,rfl⟩:∃D0 D1 D2 D3 D4 D5:Int,ds=[D0,D1,D2,D3,D4,D5]:=ds_of6 hdl
 have HB1:Hid (BxW pb g cap 6 2 false true [D0,D1,D2,D3,D4,D5] p1.sc w1):=⟨by have:=h1.out.1.c19;rw[hbv] at this;exact this,by have:=h1.out.1.c3;rw[h1.out.2.2.1.dm] at this;exact this,by have:=h1.out.1.c6;rw[h1.out.2.2.1.ok.hz,h1.out.2.2.1.dm] at this;exact this,by have:=h1.out.1.c7;rw[h1.out.2.2.1.ok.hm,h1.out.2.2.1.dm] at this;exact this,fun i hi=>h1.out.1.sc4 i hi,own_row hown hbv⟩
 have hd0:=hbd D0 (by simp)
 have hd1:=hbd D1 (by simp)
 have hd2:=hbd D2 (by simp)
 have hd3:=hbd D3 (by simp)
 have hd4:=hbd D4 (by simp)
 have hd5:=hbd D5 (by simp)
 obtain⟨L0,hL0⟩:=bx_quo (d:=D0) (S:=p1.sc 0) (p:=(ps[0]'(by omega)).toNat) (by omega) (by have:=h1.out.2.2.1.sc.bd (ps[0]'(by omega)) (List.getElem_mem _);omega) (h1.out.2.2.1.sc.sc 0 (by omega))
 obtain⟨E0,hE0⟩:∃E,E=D0+D1:=⟨_,rfl⟩
 have ea0:IntKind.i64.wrap (D0+D1)=E0:=by rw[hE0];exact bx_add hd0 hd1
 obtain⟨U0,hU0⟩:=bx_quo (d:=E0) (S:=p1.sc 0) (p:=(ps[0]'(by omega)).toNat) (by omega) (by have:=h1.out.2.2.1.sc.bd (ps[0]'(by omega)) (List.getElem_mem _);omega) (h1.out.2.2.1.sc.sc 0 (by omega))
 obtain⟨L1,hL1⟩:=bx_quo (d:=D2) (S:=p1.sc 1) (p:=(ps[1]'(by omega)).toNat) (by omega) (by have:=h1.out.2.2.1.sc.bd (ps[1]'(by omega)) (List.getElem_mem _);omega) (h1.out.2.2.1.sc.sc 1 (by omega))
 obtain⟨E1,hE1⟩:∃E,E=D2+D3:=⟨_,rfl⟩
 have ea1:IntKind.i64.wrap (D2+D3)=E1:=by rw[hE1];exact bx_add hd2 hd3
 obtain⟨U1,hU1⟩:=bx_quo (d:=E1) (S:=p1.sc 1) (p:=(ps[1]'(by omega)).toNat) (by omega) (by have:=h1.out.2.2.1.sc.bd (ps[1]'(by omega)) (List.getElem_mem _);omega) (h1.out.2.2.1.sc.sc 1 (by omega))
 obtain⟨L2,hL2⟩:=bx_quo (d:=D4) (S:=p1.sc 2) (p:=(ps[2]'(by omega)).toNat) (by omega) (by have:=h1.out.2.2.1.sc.bd (ps[2]'(by omega)) (List.getElem_mem _);omega) (h1.out.2.2.1.sc.sc 2 (by omega))
 obtain⟨E2,hE2⟩:∃E,E=D4+D5:=⟨_,rfl⟩
 have ea2:IntKind.i64.wrap (D4+D5)=E2:=by rw[hE2];exact bx_add hd4 hd5
 obtain⟨U2,hU2⟩:=bx_quo (d:=E2) (S:=p1.sc 2) (p:=(ps[2]'(by omega)).toNat) (by omega) (by have:=h1.out.2.2.1.sc.bd (ps[2]'(by omega)) (List.getElem_mem _);omega) (h1.out.2.2.1.sc.sc 2 (by omega))
 have F1:=zH h1.out.2.1
 obtain⟨S,hS⟩:∃S,S=p1.sc:=⟨_,rfl⟩
 rw[←hS] at hL0 hU0 hL1 hU1 hL2 hU2
 have HS:=zH hS
 have HB1:Hid (BxW pb g cap 6 2 false true [D0,D1,D2,D3,D4,D5] S w1):=by rw[HS.out];exact HB1
 clear hbv hdl hown hbd hpl hS HBB hd0 hd1 hd2 hd3 hd4 hd5 hE0 hE1 hE2
 have c6:=HB1.out.hz
 have c7:=HB1.out.hm
 have c3:=HB1.out.dm
 have c19:=HB1.out.bv
 go_upto_region 36 with fail
 have cs:=HB1.out.sc 0 (by decide)
 have r0:=HB1.out.row 0 D0 rfl
 go_quiet (fail)
 generalize hw:w1.drewN _=v0
 have f:ZF w1 v0:=by rw[←hw];exact (Fr.refl _ w1).drewN _
 have G0:=zH (HB1.out.keep f (fun h=>h) (fun h=>h))
 have X0:=zH f
 clear hw f cs c19 c3 c6 c7 r0
 have c19:=G0.out.bv
 have c3:=G0.out.dm
 have c6:=G0.out.hz
 have c7:=G0.out.hm
 go_upto_region 37 with fail
 have cs:=G0.out.sc 1 (by decide)
 have r2:=G0.out.row 2 D2 rfl
 go_quiet (fail)
 generalize hw:v0.drewN _=v1
 have f:ZF v0 v1:=by rw[←hw];exact (Fr.refl _ v0).drewN _
 have G1:=zH (G0.out.keep f (fun h=>h) (fun h=>h))
 have X1:=zH f
 clear hw f cs c19 c3 c6 c7 r2
 have c19:=G1.out.bv
 have c3:=G1.out.dm
 have c6:=G1.out.hz
 have c7:=G1.out.hm
 go_upto_region 38 with fail
 have cs:=G1.out.sc 2 (by decide)
 have r4:=G1.out.row 4 D4 rfl
 go_quiet (fail)
 generalize hw:v1.drewN _=v2
 have f:ZF v1 v2:=by rw[←hw];exact (Fr.refl _ v1).drewN _
 have G2:=zH (G1.out.keep f (fun h=>h) (fun h=>h))
 have X2:=zH f
 clear hw f cs c19 c3 c6 c7 r4
 have c19:=G2.out.bv
 have c3:=G2.out.dm
 have c6:=G2.out.hz
 have c7:=G2.out.hm
 go_upto_region 39 with fail
 have cs:=G2.out.sc 0 (by decide)
 have r0:=G2.out.row 0 D0 rfl
 have r1:=G2.out.row 1 D1 rfl
 go_quiet (fail)
 generalize hw:v2.drewN _=v3
 have f:ZF v2 v3:=by rw[←hw];exact (Fr.refl _ v2).drewN _
 have G3:=zH (G2.out.keep f (fun h=>h) (fun h=>h))
 have X3:=zH f
 clear hw f cs c19 c3 c6 c7 r0 r1
 have c19:=G3.out.bv
 have c3:=G3.out.dm
 have c6:=G3.out.hz
 have c7:=G3.out.hm
 go_upto_region 40 with fail
 have cs:=G3.out.sc 1 (by decide)
 have r2:=G3.out.row 2 D2 rfl
 have r3:=G3.out.row 3 D3 rfl
 go_quiet (fail)
 generalize hw:v3.drewN _=v4
 have f:ZF v3 v4:=by rw[←hw];exact (Fr.refl _ v3).drewN _
 have G4:=zH (G3.out.keep f (fun h=>h) (fun h=>h))
 have X4:=zH f
 clear hw f cs c19 c3 c6 c7 r2 r3
 have c19:=G4.out.bv
 have c3:=G4.out.dm
 have c6:=G4.out.hz
 have c7:=G4.out.hm
 go_upto_region 41 with fail
 have cs:=G4.out.sc 2 (by decide)
 have r4:=G4.out.row 4 D4 rfl
 have r5:=G4.out.row 5 D5 rfl
 go_quiet (fail)
 generalize hw:v4.drewN _=v5
 have f:ZF v4 v5:=by rw[←hw];exact (Fr.refl _ v4).drewN _
 have G5:=zH (G4.out.keep f (fun h=>h) (fun h=>h))
 have X5:=zH f
 clear hw f cs c19 c3 c6 c7 r4 r5
 have c19:=G5.out.bv
 have c3:=G5.out.dm
 have c6:=G5.out.hz
 have c7:=G5.out.hm
 have C159:=zH ac159
 clear c6 c7 c19
 go_upto_region 43 with (go_at_call 159;refine (C159.out _ _ _ _ _ _).mono ?_;rintro e wx ⟨rfl,rfl⟩)
 obtain⟨hA,hhA⟩:∃h,h=v5.heap.size+1+1:=⟨_,rfl⟩
 rw[←hhA]
 generalize hw:(((v5.alloc _).alloc _).alloc _)=vA
 have bA:vA.heap[hA]?=some (.cells #[.float .f64 L0,.float .f64 L1,.float .f64 0,.float .f64 L2,.int .u8 2,.bool true] 115 (0,0)):=by rw[←hw,hhA];exact al_new2 _ _ _ _ _
 have fA:ZF v5 vA:=by rw[←hw];exact (((Fr.refl _ _).alloc _).alloc _).alloc _
 have c3A:=fA.cell c3 (fun h=>h)
 have hszA:=fA.size
 have HA:=zH (⟨hhA,fA,bA⟩:_∧_∧_)
 clear hw c3 bA fA hhA
 go_upto_region 44 with (go_at_call 159;refine (C159.out _ _ _ _ _ _).mono ?_;rintro e wx ⟨rfl,rfl⟩)
 obtain⟨hB,hhB⟩:∃h,h=vA.heap.size+1+1:=⟨_,rfl⟩
 rw[←hhB]
 generalize hw:(((vA.alloc _).alloc _).alloc _)=vB
 have bB:vB.heap[hB]?=some (.cells #[.float .f64 U0,.float .f64 U1,.float .f64 0,.float .f64 U2,.int .u8 2,.bool true] 115 (0,0)):=by rw[←hw,hhB];exact al_new2 _ _ _ _ _
 have fB:ZF vA vB:=by rw[←hw];exact (((Fr.refl _ _).alloc _).alloc _).alloc _
 have bA:=HA.out.2.2
 have bA':=(fB.block hA (zG bA).1 (fun h=>h)).trans bA
 have hszB:=fB.size
 clear hw c3A bA
 have a0:vB.cell? ⟨hA,0,none⟩=some (.float .f64 L0):=by rw[zC bA'];rfl
 have a1:vB.cell? ⟨hA,1,none⟩=some (.float .f64 L1):=by rw[zC bA'];rfl
 have a2:vB.cell? ⟨hA,2,none⟩=some (.float .f64 0):=by rw[zC bA'];rfl
 have a3:vB.cell? ⟨hA,3,none⟩=some (.float .f64 L2):=by rw[zC bA'];rfl
 have a4:vB.cell? ⟨hA,4,none⟩=some (.int .u8 2):=by rw[zC bA'];rfl
 have a5:vB.cell? ⟨hA,5,none⟩=some (.bool true):=by rw[zC bA'];rfl
 have b0:vB.cell? ⟨hB,0,none⟩=some (.float .f64 U0):=by rw[zC bB];rfl
 have b1:vB.cell? ⟨hB,1,none⟩=some (.float .f64 U1):=by rw[zC bB];rfl
 have b2:vB.cell? ⟨hB,2,none⟩=some (.float .f64 0):=by rw[zC bB];rfl
 have b3:vB.cell? ⟨hB,3,none⟩=some (.float .f64 U2):=by rw[zC bB];rfl
 have b4:vB.cell? ⟨hB,4,none⟩=some (.int .u8 2):=by rw[zC bB];rfl
 have b5:vB.cell? ⟨hB,5,none⟩=some (.bool true):=by rw[zC bB];rfl
 have HB:=zH (⟨hhB,fB⟩:_∧_)
 clear bA' bB hhB fB
 go_wp2_with fail
 refine bodyPost_ret (v:=.tuple #[.slice (some ⟨vB.heap.size,0,none⟩) 2 2,.nilIface]) (by simp[results,Tryz.f131,go_sem]) rfl ?_
 have hf:=((((((((F1.out.trans (X0.out.weak (fun _ h=>h.elim))).trans (X1.out.weak (fun _ h=>h.elim))).trans (X2.out.weak (fun _ h=>h.elim))).trans (X3.out.weak (fun _ h=>h.elim))).trans (X4.out.weak (fun _ h=>h.elim))).trans (X5.out.weak (fun _ h=>h.elim))).trans (HA.out.2.1.weak (fun _ h=>h.elim))).trans (HB.out.2.weak (fun _ h=>h.elim)))
 refine⟨vB.heap.size,L0,L1,0,L2,U0,U1,0,U2,rfl,zH ⟨hf.trans ((Fr.refl _ vB).alloc _),hf.size,zN _ _⟩⟩
theorem box131_3{pb tb tf tc:Nat}{T:List UInt8}{p:Pr}{w:World}(h:PrAt pb tb tf tc T p w)(htw:tb < w.heap.size)(ht:TenTab w)(hp3:3≤pb)(h0:Pr0 p){k c:Nat}{xy:Int}{ps:List Int}{l0:List UInt8}(hh:HeadP T k c 3 xy ps l0)(hxy:0≤xy)(hbb:(c % 2 == 1)=true):
  Calls Tryz.prog 131 #[.pointer (some ⟨pb,0,none⟩)] w (BxPost pb 3 w):=by
 have hpb:=h.lt
 have C115:=zH (head115 h htw ht hp3 h0 hh hxy)
 have HBB:=zH hbb
 have hsf:=st_fl
 clear h ht h0 hh hxy hbb
 go_enter Tryz.func131,Tryz.ntmps131
 go_upto_region 2 with (go_at_call 115;refine C115.out.mono ?_;rintro e w1 ⟨rfl,p1,h1⟩)
 have c14:=h1.out.1.c14
 rw[h1.out.2.2.1.bb,HBB.out] at c14
 obtain⟨g,cap,ds,hbv,hdl,hown,hbd⟩:=h1.out.2.2.2.2 (h1.out.2.2.1.bb.trans HBB.out)
 have hpl:ps.length=4:=by rw[h1.out.2.2.1.ok.wd,h1.out.2.2.1.dm];rfl
 rw[hpl] at hbv hdl hown
 obtain⟨D0,D1,D2,D3,D4,D5,D6,D7,rfl⟩:∃D0 D1 D2 D3 D4 D5 D6 D7:Int,ds=[D0,D1,D2,D3,D4,D5,D6,D7]:=ds_of8 hdl
 have HB1:Hid (BxW pb g cap 8 3 true true [D0,D1,D2,D3,D4,D5,D6,D7] p1.sc w1):=⟨by have:=h1.out.1.c19;rw[hbv] at this;exact this,by have:=h1.out.1.c3;rw[h1.out.2.2.1.dm] at this;exact this,by have:=h1.out.1.c6;rw[h1.out.2.2.1.ok.hz,h1.out.2.2.1.dm] at this;exact this,by have:=h1.out.1.c7;rw[h1.out.2.2.1.ok.hm,h1.out.2.2.1.dm] at this;exact this,fun i hi=>h1.out.1.sc4 i hi,own_row hown hbv⟩
 have hd0:=hbd D0 (by simp)
 have hd1:=hbd D1 (by simp)
 have hd2:=hbd D2 (by simp)
 have hd3:=hbd D3 (by simp)
 have hd4:=hbd D4 (by simp)
 have hd5:=hbd D5 (by simp)
 have hd6:=hbd D6 (by simp)
 have hd7:=hbd D7 (by simp)
 obtain⟨L0,hL0⟩:=bx_quo (d:=D0) (S:=p1.sc 0) (p:=(ps[0]'(by omega)).toNat) (by omega) (by have:=h1.out.2.2.1.sc.bd (ps[0]'(by omega)) (List.getElem_mem _);omega) (h1.out.2.2.1.sc.sc 0 (by omega))
 obtain⟨E0,hE0⟩:∃E,E=D0+D1:=⟨_,rfl⟩
 have ea0:IntKind.i64.wrap (D0+D1)=E0:=by rw[hE0];exact bx_add hd0 hd1
 obtain⟨U0,hU0⟩:=bx_quo (d:=E0) (S:=p1.sc 0) (p:=(ps[0]'(by omega)).toNat) (by omega) (by have:=h1.out.2.2.1.sc.bd (ps[0]'(by omega)) (List.getElem_mem _);omega) (h1.out.2.2.1.sc.sc 0 (by omega))
 obtain⟨L1,hL1⟩:=bx_quo (d:=D2) (S:=p1.sc 1) (p:=(ps[1]'(by omega)).toNat) (by omega) (by have:=h1.out.2.2.1.sc.bd (ps[1]'(by omega)) (List.getElem_mem _);omega) (h1.out.2.2.1.sc.sc 1 (by omega))
 obtain⟨E1,hE1⟩:∃E,E=D2+D3:=⟨_,rfl⟩
 have ea1:IntKind.i64.wrap (D2+D3)=E1:=by rw[hE1];exact bx_add hd2 hd3
 obtain⟨U1,hU1⟩:=bx_quo (d:=E1) (S:=p1.sc 1) (p:=(ps[1]'(by omega)).toNat) (by omega) (by have:=h1.out.2.2.1.sc.bd (ps[1]'(by omega)) (List.getElem_mem _);omega) (h1.out.2.2.1.sc.sc 1 (by omega))
 obtain⟨L2,hL2⟩:=bx_quo (d:=D4) (S:=p1.sc 2) (p:=(ps[2]'(by omega)).toNat) (by omega) (by have:=h1.out.2.2.1.sc.bd (ps[2]'(by omega)) (List.getElem_mem _);omega) (h1.out.2.2.1.sc.sc 2 (by omega))
 obtain⟨E2,hE2⟩:∃E,E=D4+D5:=⟨_,rfl⟩
 have ea2:IntKind.i64.wrap (D4+D5)=E2:=by rw[hE2];exact bx_add hd4 hd5
 obtain⟨U2,hU2⟩:=bx_quo (d:=E2) (S:=p1.sc 2) (p:=(ps[2]'(by omega)).toNat) (by omega) (by have:=h1.out.2.2.1.sc.bd (ps[2]'(by omega)) (List.getElem_mem _);omega) (h1.out.2.2.1.sc.sc 2 (by omega))
 obtain⟨L3,hL3⟩:=bx_quo (d:=D6) (S:=p1.sc 3) (p:=(ps[3]'(by omega)).toNat) (by omega) (by have:=h1.out.2.2.1.sc.bd (ps[3]'(by omega)) (List.getElem_mem _);omega) (h1.out.2.2.1.sc.sc 3 (by omega))
 obtain⟨E3,hE3⟩:∃E,E=D6+D7:=⟨_,rfl⟩
 have ea3:IntKind.i64.wrap (D6+D7)=E3:=by rw[hE3];exact bx_add hd6 hd7
 obtain⟨U3,hU3⟩:=bx_quo (d:=E3) (S:=p1.sc 3) (p:=(ps[3]'(by omega)).toNat) (by omega) (by have:=h1.out.2.2.1.sc.bd (ps[3]'(by omega)) (List.getElem_mem _);omega) (h1.out.2.2.1.sc.sc 3 (by omega))
 have F1:=zH h1.out.2.1
 obtain⟨S,hS⟩:∃S,S=p1.sc:=⟨_,rfl⟩
 rw[←hS] at hL0 hU0 hL1 hU1 hL2 hU2 hL3 hU3
 have HS:=zH hS
 have HB1:Hid (BxW pb g cap 8 3 true true [D0,D1,D2,D3,D4,D5,D6,D7] S w1):=by rw[HS.out];exact HB1
 clear hbv hdl hown hbd hpl hS HBB hd0 hd1 hd2 hd3 hd4 hd5 hd6 hd7 hE0 hE1 hE2 hE3
 have c6:=HB1.out.hz
 have c7:=HB1.out.hm
 have c3:=HB1.out.dm
 have c19:=HB1.out.bv
 go_upto_region 14 with fail
 have cs:=HB1.out.sc 0 (by decide)
 have r0:=HB1.out.row 0 D0 rfl
 go_quiet (fail)
 generalize hw:w1.drewN _=v0
 have f:ZF w1 v0:=by rw[←hw];exact (Fr.refl _ w1).drewN _
 have G0:=zH (HB1.out.keep f (fun h=>h) (fun h=>h))
 have X0:=zH f
 clear hw f cs c19 c3 c6 c7 r0
 have c19:=G0.out.bv
 have c3:=G0.out.dm
 have c6:=G0.out.hz
 have c7:=G0.out.hm
 go_upto_region 15 with fail
 have cs:=G0.out.sc 1 (by decide)
 have r2:=G0.out.row 2 D2 rfl
 go_quiet (fail)
 generalize hw:v0.drewN _=v1
 have f:ZF v0 v1:=by rw[←hw];exact (Fr.refl _ v0).drewN _
 have G1:=zH (G0.out.keep f (fun h=>h) (fun h=>h))
 have X1:=zH f
 clear hw f cs c19 c3 c6 c7 r2
 have c19:=G1.out.bv
 have c3:=G1.out.dm
 have c6:=G1.out.hz
 have c7:=G1.out.hm
 go_upto_region 16 with fail
 have cs:=G1.out.sc 2 (by decide)
 have r4:=G1.out.row 4 D4 rfl
 go_quiet (fail)
 generalize hw:v1.drewN _=v2
 have f:ZF v1 v2:=by rw[←hw];exact (Fr.refl _ v1).drewN _
 have G2:=zH (G1.out.keep f (fun h=>h) (fun h=>h))
 have X2:=zH f
 clear hw f cs c19 c3 c6 c7 r4
 have c19:=G2.out.bv
 have c3:=G2.out.dm
 have c6:=G2.out.hz
 have c7:=G2.out.hm
 go_upto_region 17 with fail
 have cs:=G2.out.sc 3 (by decide)
 have r6:=G2.out.row 6 D6 rfl
 go_quiet (fail)
 generalize hw:v2.drewN _=v3
 have f:ZF v2 v3:=by rw[←hw];exact (Fr.refl _ v2).drewN _
 have G3:=zH (G2.out.keep f (fun h=>h) (fun h=>h))
 have X3:=zH f
 clear hw f cs c19 c3 c6 c7 r6
 have c19:=G3.out.bv
 have c3:=G3.out.dm
 have c6:=G3.out.hz
 have c7:=G3.out.hm
 go_upto_region 18 with fail
 have cs:=G3.out.sc 0 (by decide)
 have r0:=G3.out.row 0 D0 rfl
 have r1:=G3.out.row 1 D1 rfl
 go_quiet (fail)
 generalize hw:v3.drewN _=v4
 have f:ZF v3 v4:=by rw[←hw];exact (Fr.refl _ v3).drewN _
 have G4:=zH (G3.out.keep f (fun h=>h) (fun h=>h))
 have X4:=zH f
 clear hw f cs c19 c3 c6 c7 r0 r1
 have c19:=G4.out.bv
 have c3:=G4.out.dm
 have c6:=G4.out.hz
 have c7:=G4.out.hm
 go_upto_region 19 with fail
 have cs:=G4.out.sc 1 (by decide)
 have r2:=G4.out.row 2 D2 rfl
 have r3:=G4.out.row 3 D3 rfl
 go_quiet (fail)
 generalize hw:v4.drewN _=v5
 have f:ZF v4 v5:=by rw[←hw];exact (Fr.refl _ v4).drewN _
 have G5:=zH (G4.out.keep f (fun h=>h) (fun h=>h))
 have X5:=zH f
 clear hw f cs c19 c3 c6 c7 r2 r3
 have c19:=G5.out.bv
 have c3:=G5.out.dm
 have c6:=G5.out.hz
 have c7:=G5.out.hm
 go_upto_region 20 with fail
 have cs:=G5.out.sc 2 (by decide)
 have r4:=G5.out.row 4 D4 rfl
 have r5:=G5.out.row 5 D5 rfl
 go_quiet (fail)
 generalize hw:v5.drewN _=v6
 have f:ZF v5 v6:=by rw[←hw];exact (Fr.refl _ v5).drewN _
 have G6:=zH (G5.out.keep f (fun h=>h) (fun h=>h))
 have X6:=zH f
 clear hw f cs c19 c3 c6 c7 r4 r5
 have c19:=G6.out.bv
 have c3:=G6.out.dm
 have c6:=G6.out.hz
 have c7:=G6.out.hm
 go_upto_region 21 with fail
 have cs:=G6.out.sc 3 (by decide)
 have r6:=G6.out.row 6 D6 rfl
 have r7:=G6.out.row 7 D7 rfl
 go_quiet (fail)
 generalize hw:v6.drewN _=v7
 have f:ZF v6 v7:=by rw[←hw];exact (Fr.refl _ v6).drewN _
 have G7:=zH (G6.out.keep f (fun h=>h) (fun h=>h))
 have X7:=zH f
 clear hw f cs c19 c3 c6 c7 r6 r7
 have c19:=G7.out.bv
 have c3:=G7.out.dm
 have c6:=G7.out.hz
 have c7:=G7.out.hm
 have C159:=zH ac159
 clear c6 c7 c19
 go_upto_region 23 with (go_at_call 159;refine (C159.out _ _ _ _ _ _).mono ?_;rintro e wx ⟨rfl,rfl⟩)
 obtain⟨hA,hhA⟩:∃h,h=v7.heap.size+1+1:=⟨_,rfl⟩
 rw[←hhA]
 generalize hw:(((v7.alloc _).alloc _).alloc _)=vA
 have bA:vA.heap[hA]?=some (.cells #[.float .f64 L0,.float .f64 L1,.float .f64 L2,.float .f64 L3,.int .u8 3,.bool true] 115 (0,0)):=by rw[←hw,hhA];exact al_new2 _ _ _ _ _
 have fA:ZF v7 vA:=by rw[←hw];exact (((Fr.refl _ _).alloc _).alloc _).alloc _
 have c3A:=fA.cell c3 (fun h=>h)
 have hszA:=fA.size
 have HA:=zH (⟨hhA,fA,bA⟩:_∧_∧_)
 clear hw c3 bA fA hhA
 go_upto_region 24 with (go_at_call 159;refine (C159.out _ _ _ _ _ _).mono ?_;rintro e wx ⟨rfl,rfl⟩)
 obtain⟨hB,hhB⟩:∃h,h=vA.heap.size+1+1:=⟨_,rfl⟩
 rw[←hhB]
 generalize hw:(((vA.alloc _).alloc _).alloc _)=vB
 have bB:vB.heap[hB]?=some (.cells #[.float .f64 U0,.float .f64 U1,.float .f64 U2,.float .f64 U3,.int .u8 3,.bool true] 115 (0,0)):=by rw[←hw,hhB];exact al_new2 _ _ _ _ _
 have fB:ZF vA vB:=by rw[←hw];exact (((Fr.refl _ _).alloc _).alloc _).alloc _
 have bA:=HA.out.2.2
 have bA':=(fB.block hA (zG bA).1 (fun h=>h)).trans bA
 have hszB:=fB.size
 clear hw c3A bA
 have a0:vB.cell? ⟨hA,0,none⟩=some (.float .f64 L0):=by rw[zC bA'];rfl
 have a1:vB.cell? ⟨hA,1,none⟩=some (.float .f64 L1):=by rw[zC bA'];rfl
 have a2:vB.cell? ⟨hA,2,none⟩=some (.float .f64 L2):=by rw[zC bA'];rfl
 have a3:vB.cell? ⟨hA,3,none⟩=some (.float .f64 L3):=by rw[zC bA'];rfl
 have a4:vB.cell? ⟨hA,4,none⟩=some (.int .u8 3):=by rw[zC bA'];rfl
 have a5:vB.cell? ⟨hA,5,none⟩=some (.bool true):=by rw[zC bA'];rfl
 have b0:vB.cell? ⟨hB,0,none⟩=some (.float .f64 U0):=by rw[zC bB];rfl
 have b1:vB.cell? ⟨hB,1,none⟩=some (.float .f64 U1):=by rw[zC bB];rfl
 have b2:vB.cell? ⟨hB,2,none⟩=some (.float .f64 U2):=by rw[zC bB];rfl
 have b3:vB.cell? ⟨hB,3,none⟩=some (.float .f64 U3):=by rw[zC bB];rfl
 have b4:vB.cell? ⟨hB,4,none⟩=some (.int .u8 3):=by rw[zC bB];rfl
 have b5:vB.cell? ⟨hB,5,none⟩=some (.bool true):=by rw[zC bB];rfl
 have HB:=zH (⟨hhB,fB⟩:_∧_)
 clear bA' bB hhB fB
 go_wp2_with fail
 refine bodyPost_ret (v:=.tuple #[.slice (some ⟨vB.heap.size,0,none⟩) 2 2,.nilIface]) (by simp[results,Tryz.f131,go_sem]) rfl ?_
 have hf:=((((((((((F1.out.trans (X0.out.weak (fun _ h=>h.elim))).trans (X1.out.weak (fun _ h=>h.elim))).trans (X2.out.weak (fun _ h=>h.elim))).trans (X3.out.weak (fun _ h=>h.elim))).trans (X4.out.weak (fun _ h=>h.elim))).trans (X5.out.weak (fun _ h=>h.elim))).trans (X6.out.weak (fun _ h=>h.elim))).trans (X7.out.weak (fun _ h=>h.elim))).trans (HA.out.2.1.weak (fun _ h=>h.elim))).trans (HB.out.2.weak (fun _ h=>h.elim)))
 refine⟨vB.heap.size,L0,L1,L2,L3,U0,U1,U2,U3,rfl,zH ⟨hf.trans ((Fr.refl _ vB).alloc _),hf.size,zN _ _⟩⟩
end Go.Proofs.YtnjjgbcmjnfijaaGreatDoor
