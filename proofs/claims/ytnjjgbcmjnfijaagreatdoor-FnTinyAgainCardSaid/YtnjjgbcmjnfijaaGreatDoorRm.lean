/- The package's things as plain data: a point. No condition. -/
import Derived.Test.YtnjjgbcmjnfijaaGreatDoorR4
import Derived.Test.YtnjjgbcmjnfijaaGreatDoorGi
import Derived.BigRegion
namespace Go.Proofs.YtnjjgbcmjnfijaaGreatDoor
set_option maxRecDepth 100000
set_option maxHeartbeats 8000000
open Go.RowKit
theorem sz1(w:World)(A:Obj):(w.alloc A).heap.size=w.heap.size+1:=by show (w.heap.push _).size=_;rw[Array.size_push]
def TrPost (D:Nat) (k d:Int) (g:G) (w:World) (e:Ending) (w':World):Prop :=
 ∃(na:Option Addr) (n nc:Nat) (ka:Option Addr) (m kc:Nat),e=.returned (.agg #[.int .i64 k,.int .i64 d,.slice na n nc,.slice ka m kc])∧Hid (ZF w w'∧GAt D (fun b=>w.heap.size≤b) w' [.int .i64 k,.int .i64 d,.slice na n nc,.slice ka m kc] g)
structure NcAt (w:World) (k d:Int) (v:Value) (xs:List Nat) (wr:World):Prop where
 fr:ZF w wr
 res:wr.heap[w.heap.size+1]?=some (.cells #[.int .i64 0,.int .i64 0,.slice none 0 0,.slice none 0 0] 27 (0,0))
 o:wr.heap[w.heap.size+3]?=some (.cells #[.int .i64 k,.int .i64 d,v,.slice none 0 0] 27 (0,0))
 own:wr.ownsRow (w.heap.size+4) 40 1 v xs.length (xs.map flv)
section
variable {w wr w5:World}{k d:Int}{v v':Value}{xs ys:List Nat}
theorem NcAt.sz(h:NcAt w k d v xs wr):w.heap.size+4≤wr.heap.size:=(zG h.o).1
theorem NcAt.run(h:NcAt w k d v xs wr){wy:World}(f:ZF wr wy):NcAt w k d v xs wy :=
 have old:∀b,b < wr.heap.size→wy.heap[b]?=wr.heap[b]?:=fun b h1=>f.block b h1 (fun h=>h)
 ⟨h.fr.trans f,(old _ (zG h.res).1).trans h.res,(old _ h.sz).trans h.o,ownsRow_keep h.own (fun b _ hl=>old b hl)⟩
theorem NcAt.len{a:Option Addr}{n c:Nat}(h:NcAt w k d (.slice a n c) xs wr):n=xs.length:=by
 rcases h.own.2 with ⟨e,e2⟩|⟨_,_,_,e,_⟩
 ·injection e with _ e3 _;omega
 ·injection e
theorem NcAt.k5(h:NcAt w k d v xs wr):∀o,w.heap.size+4≤(wr.alloc o).heap.size:=fun o=>by
 have:=h.sz
 rw[sz1]
 omega
theorem NcAt.k7(h:NcAt w k d v xs wr):∀o,(wr.alloc o).ownsRow (w.heap.size+4) 40 1 v xs.length (xs.map flv):=fun o=>h.own.alloc o
theorem NcAt.app(h:NcAt w k d v xs w5){o:Obj}{w7:World}(own:w7.ownsRow (w.heap.size+4) 40 1 v' (xs.length+ys.length) (xs.map flv++ys.map flv))(g:(w5.alloc o).grownBy w7 v.ownBlock):
  w7.heap[w.heap.size+3]?=some (.cells #[.int .i64 k,.int .i64 d,v,.slice none 0 0] 27 (0,0))∧NcAt w k d v' (xs++ys) (w7.setCell ⟨w.heap.size+3,2,none⟩ v'):=by
 have hs:=h.sz
 have hv:∀b,v.ownBlock=some b→w.heap.size+4≤b:=fun b hb=>(h.own.lt b hb).1
 have old:∀b,b < w.heap.size+4→w7.heap[b]?=w5.heap[b]?:=fun b hb=>by
  refine (g.block b (by show b < (w5.heap.push o).size;rw[Array.size_push];omega) (fun e=>?_)).trans (Below.heap_alloc w5 o b (by omega))
  have:=hv b e.symm
  omega
 have h3:=(old _ (by omega)).trans h.o
 have f7:ZF w w7:=by
  refine⟨?_,?_,?_,?_,fun b hb _=>(old b (by omega)).trans (h.fr.block b hb (fun h=>h))⟩
  ·exact g.os.trans h.fr.os
  ·exact g.tape.trans h.fr.tape
  ·exact g.output.trans h.fr.output
  ·have:=g.size
   have h2:(w5.alloc o).heap.size=w5.heap.size+1:=by show (w5.heap.push o).size=_;rw[Array.size_push]
   have:=h.fr.size
   omega
 refine⟨h3,f7.setNew (by show w.heap.size≤w.heap.size+3;omega) _,?_,Lib.heap_setCell_same (i:=2) h3 _,?_⟩
 ·exact (Below.heap_setCell w7 _ _ _ (by show ¬w.heap.size+1=w.heap.size+3;omega)).trans ((old _ (by omega)).trans h.res)
 ·have e:xs.map flv++ys.map flv=(xs++ys).map flv:=by simp
  rw[e,←List.length_append] at own
  exact ownsRow_keep own (fun b hb _=>Below.heap_setCell w7 _ _ b (by show ¬b=w.heap.size+3;omega))
theorem NcAt.post{k d:Nat}{na:Option Addr}{n nc:Nat}(h:NcAt w k d (.slice na n nc) xs wr)(hk:k≤15)(hd:d≤3)(hx:xs.length≤30000){wz:World}(f:Fr (Eq (w.heap.size+1)) wr wz):TrPost 1 k d (.mk k d xs []) w (.returned (.agg #[.int .i64 k,.int .i64 d,.slice na n nc,.slice none 0 0])) wz:=by
 refine⟨na,n,nc,none,0,0,rfl,h.fr.transNew f (fun b e=>.inl (by omega)),_,_,rfl,?_,RowsAt.nil,hx,Nat.zero_le _,Int.natCast_nonneg k,by show (k:Int)≤15;omega,Int.natCast_nonneg d,by show (d:Int)≤3;omega⟩
 have h1:=ownsRow_keep h.own (w':=wz) (fun b hb hl=>f.block b hl (by omega))
 have:=CellsAt.of_own h1
 exact CellsAt.mono this (by decide) (fun b hb _=>by have:=(h1.lt b hb.symm).1;omega)
end
def PcAt (w:World) (t:TypeId) (cb:Nat) (C:Array Value) (v:Value) (wr:World):Prop:=wr.heap[cb]?=some (.cells C t (0,0))∧some cb≠v.ownBlock∧cb≠w.heap.size+3
theorem PcAt.run{w wr wy:World}{t:TypeId}{cb:Nat}{C:Array Value}{v:Value}(h:PcAt w t cb C v wr)(f:ZF wr wy):PcAt w t cb C v wy:=⟨(f.block cb (zG h.1).1 (fun h=>h)).trans h.1,h.2⟩
theorem PcAt.app{w w5 w7:World}{t:TypeId}{cb:Nat}{C:Array Value}{v v':Value}{o:Obj}(h:PcAt w t cb C v w5)(g:(w5.alloc o).grownBy w7 v.ownBlock)(hat:v'.ownBlock=v.ownBlock∨v'.ownBlock=some (w5.alloc o).heap.size):w7.heap[cb]?=some (.cells C t (0,0))∧PcAt w t cb C v' (w7.setCell ⟨w.heap.size+3,2,none⟩ v'):=by
 obtain⟨h1,h2,h3⟩:=h
 have hl:=(zG h1).1
 have hs:(w5.alloc o).heap.size=w5.heap.size+1:=by show (w5.heap.push o).size=_;rw[Array.size_push]
 have k:=(g.block cb (by omega) h2).trans ((Below.heap_alloc w5 o cb hl).trans h1)
 refine⟨k,(Below.heap_setCell w7 _ _ cb h3).trans k,fun e=>?_,h3⟩
 rcases hat with hat|hat
 ·exact h2 (e.trans hat)
 ·rw[hat] at e;injection e with e;omega
theorem pc_cells{w:World}{cb:Nat}{c0 c1 c2 c3 c4:Value}(h:w.heap[cb]?=some (.cells #[c0,c1,c2,c3,c4] 113 (0,0))):w.cell? ⟨cb,0,none⟩=some c0∧w.cell? ⟨cb,1,none⟩=some c1∧w.cell? ⟨cb,2,none⟩=some c2∧w.cell? ⟨cb,3,none⟩=some c3∧w.cell? ⟨cb,4,none⟩=some c4:=by
 refine⟨?_,?_,?_,?_,?_⟩<;>(rw[zC h];rfl)
theorem get160(D W:Nat)(z1 z2 z3:Bool)(h1:((D:Int) == 1)=z1)(h2:((D:Int) == 2)=z2)(h3:((D:Int) == 3)=z3)(C231:Hid (∀w1,Calls Tryz.prog 231 #[.int .u8 D] w1 fun e w'=>e=.returned (.int .i64 W)∧w'=w1))(hW:2≤W∧W≤4)
  (g o n c i:Nat) (x y u v Z M:Nat) (hz:(z1=true→W=3∧Z=u∧M=0)∧(z1=false→z2=true→W=3∧Z=0∧M=u)∧(z1=false→z2=false→z3=true→W=4∧Z=u∧M=v)∧(z1=false→z2=false→z3=false→Z=0∧M=0)) (w:World) (hi:i*W+W≤n) (hn:n≤100000)
  (c0:w.cell? ⟨g,o+i*W,none⟩=some (.float .f64 x)) (c1:w.cell? ⟨g,o+(i*W+1),none⟩=some (.float .f64 y)) (c2:3≤W→w.cell? ⟨g,o+(i*W+2),none⟩=some (.float .f64 u)) (c3:4≤W→w.cell? ⟨g,o+(i*W+3),none⟩=some (.float .f64 v)) :
  Calls Tryz.prog 160 #[.agg #[.int .u8 D,.slice (some ⟨g,o,none⟩) n c],.int .i64 i] w fun e w'=>e=.returned (.agg #[.float .f64 x,.float .f64 y,.float .f64 Z,.float .f64 M,.int .u8 D])∧ZF w w':=by
 obtain⟨j,hj⟩:∃j,j=i*W:=⟨_,rfl⟩
 have em:(i:Int)*(W:Int)=(j:Int):=by rw[hj];simp
 rw[←hj] at hi c0 c1 c2 c3
 have hmul:∀t w1,(binOp .mul t (.int .i64 i) (.int .i64 W)).run Tryz.prog w1=.ok (.int .i64 j) w1:=fun t w1=>by
  simp[binOp,go_sem,em]
  simp[IntKind.wrap,IntKind.bits,IntKind.signed];omega
 have hw0:wrap64 (j:Int)=j:=by simp[wrap64];omega
 have hw1:wrap64 ((j:Int)+1)=((j+1:Nat):Int):=by simp[wrap64];omega
 have hw2:wrap64 ((j:Int)+2)=((j+2:Nat):Int):=by simp[wrap64];omega
 have hw3:wrap64 ((j:Int)+3)=((j+3:Nat):Int):=by simp[wrap64];omega
 clear hj
 have hsf:=st_fl
 have FW:Hid (∃w0,w0=(w.alloc (.cells #[.int .u8 D,.slice (some ⟨g,o,none⟩) n c] 119)).alloc (.cells #[.float .f64 0,.float .f64 0,.float .f64 0,.float .f64 0,.int .u8 0] 113)):=⟨_,rfl⟩
 go_enter Tryz.func160,Tryz.ntmps160
 go_upto_region 2 with (go_at_call 231;refine (C231.out _).mono ?_;rintro e w' ⟨rfl,rfl⟩)
 obtain⟨w0,hw0⟩:∃w0,w0=(w.alloc (.cells #[.int .u8 D,.slice (some ⟨g,o,none⟩) n c] 119)).alloc (.cells #[.float .f64 0,.float .f64 0,.float .f64 0,.float .f64 0,.int .u8 0] 113):=⟨_,rfl⟩
 rw[←hw0]
 have f0:ZF w w0:=by rw[hw0];exact ((Fr.refl _ w).alloc _).alloc _
 have b0:w0.heap[w.heap.size]?=some (.cells #[.int .u8 D,.slice (some ⟨g,o,none⟩) n c] 119 (0,0)):=by
  rw[hw0];exact (Below.heap_alloc _ _ _ (by show _ < (w.heap.push _).size;rw[Array.size_push];omega)).trans (zN w _)
 have b1:w0.heap[w.heap.size+1]?=some (.cells #[.float .f64 0,.float .f64 0,.float .f64 0,.float .f64 0,.int .u8 0] 113 (0,0)):=by
  have:=zN (w.alloc (.cells #[.int .u8 D,.slice (some ⟨g,o,none⟩) n c] 119)) (.cells #[.float .f64 0,.float .f64 0,.float .f64 0,.float .f64 0,.int .u8 0] 113)
  rw[sz1] at this
  rw[hw0];exact this
 have s0:w0.heap.size=w.heap.size+2:=by rw[hw0];show ((w.alloc _).heap.push _).size=_;rw[Array.size_push,sz1]
 have q0:w0.cell? ⟨w.heap.size,0,none⟩=some (.int .u8 D):=by rw[zC b0];rfl
 have q1:w0.cell? ⟨w.heap.size,1,none⟩=some (.slice (some ⟨g,o,none⟩) n c):=by rw[zC b0];rfl
 have d0:w0.cell? ⟨g,o+j,none⟩=some (.float .f64 x):=f0.cell c0 (fun h=>h)
 have d1:w0.cell? ⟨g,o+(j+1),none⟩=some (.float .f64 y):=f0.cell c1 (fun h=>h)
 have C2:Hid (3≤W→w0.cell? ⟨g,o+(j+2),none⟩=some (.float .f64 u)):=fun h=>f0.cell (c2 h) (fun h=>h)
 have C3:Hid (4≤W→w0.cell? ⟨g,o+(j+3),none⟩=some (.float .f64 v)):=fun h=>f0.cell (c3 h) (fun h=>h)
 have k0:IntKind.i64.wrap (j:Int)=j:=by simp[IntKind.wrap,IntKind.bits,IntKind.signed];omega
 have k1:IntKind.i64.wrap ((j:Int)+1)=((j+1:Nat):Int):=by simp[IntKind.wrap,IntKind.bits,IntKind.signed];omega
 have l0:(0:Int)≤(j:Int):=by omega
 have l1:(j:Int) < (n:Int):=by omega
 have l2:(j:Int)+1 < (n:Int):=by omega
 have l3:(0:Int)≤(j:Int)+1:=by omega
 have nb:w0.heap.size≠g:=World.new_ne w0 _ d0
 have nw1:w0.heap.size≠w.heap.size:=by omega
 have F0:=zH f0
 have B0:=zH b0
 have B1:=zH b1
 have S0:=zH s0
 have HZ:=zH hz
 clear hw0 f0 b0 b1 s0 c0 c1 c2 c3 FW hz C231
 go_region_held3 (fun w'=>w'.cell? ⟨g,o+j,none⟩=some (.float .f64 x)∧w'.cell? ⟨g,o+(j+1),none⟩=some (.float .f64 y)∧w'.cell? ⟨w.heap.size,0,none⟩=some (.int .u8 D)∧w'.cell? ⟨w.heap.size,1,none⟩=some (.slice (some ⟨g,o,none⟩) n c)) (go_keep) (fail)
 obtain⟨w4,hw4⟩:∃w4,w4=(w0.alloc (.cells #[.float .f64 x,.float .f64 y,.float .f64 0,.float .f64 0,.int .u8 D] 113)).drew:=⟨_,rfl⟩
 rw[←hw4]
 have f4:ZF w0 w4:=by rw[hw4];exact ((Fr.refl _ _).alloc _).drew
 have b4:w4.heap[w0.heap.size]?=some (.cells #[.float .f64 x,.float .f64 y,.float .f64 0,.float .f64 0,.int .u8 D] 113 (0,0)):=by rw[hw4];exact zN w0 _
 have r4:=(f4.block _ (zG B1.out).1 (fun h=>h)).trans B1.out
 have p0:w4.cell? ⟨w0.heap.size,0,none⟩=some (.float .f64 x):=by rw[zC b4];rfl
 have p1:w4.cell? ⟨w0.heap.size,1,none⟩=some (.float .f64 y):=by rw[zC b4];rfl
 have p2:w4.cell? ⟨w0.heap.size,2,none⟩=some (.float .f64 0):=by rw[zC b4];rfl
 have p3:w4.cell? ⟨w0.heap.size,3,none⟩=some (.float .f64 0):=by rw[zC b4];rfl
 have p4:w4.cell? ⟨w0.heap.size,4,none⟩=some (.int .u8 D):=by rw[zC b4];rfl
 have pf:∀k,w4.frozen? ⟨w0.heap.size,k,none⟩=false:=fun k=>zF b4 k
 have r0:w4.cell? ⟨w.heap.size+1,0,none⟩=some (.float .f64 0):=by rw[zC r4];rfl
 have r1:w4.cell? ⟨w.heap.size+1,1,none⟩=some (.float .f64 0):=by rw[zC r4];rfl
 have r2:w4.cell? ⟨w.heap.size+1,2,none⟩=some (.float .f64 0):=by rw[zC r4];rfl
 have r3:w4.cell? ⟨w.heap.size+1,3,none⟩=some (.float .f64 0):=by rw[zC r4];rfl
 have r5:w4.cell? ⟨w.heap.size+1,4,none⟩=some (.int .u8 0):=by rw[zC r4];rfl
 have rf:∀k,w4.frozen? ⟨w.heap.size+1,k,none⟩=false:=fun k=>zF r4 k
 have q0':=f4.cell q0 (fun h=>h)
 have q1':=f4.cell q1 (fun h=>h)
 have HF:Hid (∀wz,Fr (fun b=>b=w0.heap.size∨b=w.heap.size+1) w4 wz→ZF w wz):=fun wz f=>(F0.out.trans f4).transNew f (fun b e=>.inl (by have:=S0.out;omega))
 have D2:Hid (3≤W→w4.cell? ⟨g,o+(j+2),none⟩=some (.float .f64 u)):=fun h=>f4.cell (C2.out h) (fun h=>h)
 have D3:Hid (4≤W→w4.cell? ⟨g,o+(j+3),none⟩=some (.float .f64 v)):=fun h=>f4.cell (C3.out h) (fun h=>h)
 have nw2:¬w.heap.size+1=w0.heap.size:=by have:=S0.out;omega
 have nw3:¬w0.heap.size=w.heap.size+1:=fun e=>nw2 e.symm
 have nw4:¬w.heap.size=w0.heap.size:=fun e=>nw1 e.symm
 have nb2:¬g=w0.heap.size:=fun e=>nb e.symm
 clear hw4 f4 b4 r4 d0 d1 q0 q1 C2 C3 B0 B1 F0 S0 nb nw1
 cases z1 with
 | true =>
  have hW3:=HZ.out.1 rfl
  have HZM:Hid (Z=u∧M=0):=hW3.2
  have d2:=D2.out (by omega)
  have l4:(j:Int)+2 < (n:Int):=by omega
  have l5:(0:Int)≤(j:Int)+2:=by omega
  have l7:((j:Int)+2).toNat=j+2:=by omega
  clear hW3
  go_wp2_with fail
  refine bodyPost_ret (v:=.agg #[.float .f64 x,.float .f64 y,.float .f64 u,.float .f64 0,.int .u8 D]) (by simp[results,Tryz.f160,go_sem,r0,r1,r2,r3,r5]) rfl ⟨by rw[HZM.out.1,HZM.out.2],HF.out _ ?_⟩
  exact ((((((Fr.refl _ w4).setR _ (.inl rfl)).setR _ (.inr rfl)).setR _ (.inr rfl)).setR _ (.inr rfl)).setR _ (.inr rfl)).setR _ (.inr rfl)
 | false =>
 cases z2 with
 | true =>
  have hW3:=HZ.out.2.1 rfl rfl
  have HZM:Hid (Z=0∧M=u):=hW3.2
  have d2:=D2.out (by omega)
  have l4:(j:Int)+2 < (n:Int):=by omega
  have l5:(0:Int)≤(j:Int)+2:=by omega
  have l7:((j:Int)+2).toNat=j+2:=by omega
  clear hW3
  go_wp2_with fail
  refine bodyPost_ret (v:=.agg #[.float .f64 x,.float .f64 y,.float .f64 0,.float .f64 u,.int .u8 D]) (by simp[results,Tryz.f160,go_sem,r0,r1,r2,r3,r5]) rfl ⟨by rw[HZM.out.1,HZM.out.2],HF.out _ ?_⟩
  exact ((((((Fr.refl _ w4).setR _ (.inl rfl)).setR _ (.inr rfl)).setR _ (.inr rfl)).setR _ (.inr rfl)).setR _ (.inr rfl)).setR _ (.inr rfl)
 | false =>
 cases z3 with
 | true =>
  have hW3:=HZ.out.2.2.1 rfl rfl rfl
  have HZM:Hid (Z=u∧M=v):=hW3.2
  have d2:=D2.out (by omega)
  have l4:(j:Int)+2 < (n:Int):=by omega
  have l5:(0:Int)≤(j:Int)+2:=by omega
  have l7:((j:Int)+2).toNat=j+2:=by omega
  have d3:=D3.out (by omega)
  have l8:(j:Int)+3 < (n:Int):=by omega
  have l9:(0:Int)≤(j:Int)+3:=by omega
  have l10:((j:Int)+3).toNat=j+3:=by omega
  clear hW3
  go_wp2_with fail
  refine bodyPost_ret (v:=.agg #[.float .f64 x,.float .f64 y,.float .f64 u,.float .f64 v,.int .u8 D]) (by simp[results,Tryz.f160,go_sem,r0,r1,r2,r3,r5]) rfl ⟨by rw[HZM.out.1,HZM.out.2],HF.out _ ?_⟩
  exact (((((((Fr.refl _ w4).setR _ (.inl rfl)).setR _ (.inl rfl)).setR _ (.inr rfl)).setR _ (.inr rfl)).setR _ (.inr rfl)).setR _ (.inr rfl)).setR _ (.inr rfl)
 | false =>
  have hW3:=HZ.out.2.2.2 rfl rfl rfl
  have HZM:Hid (Z=0∧M=0):=hW3
  clear hW3
  go_wp2_with fail
  refine bodyPost_ret (v:=.agg #[.float .f64 x,.float .f64 y,.float .f64 0,.float .f64 0,.int .u8 D]) (by simp[results,Tryz.f160,go_sem,r0,r1,r2,r3,r5]) rfl ⟨by rw[HZM.out.1,HZM.out.2],HF.out _ ?_⟩
  exact (((((Fr.refl _ w4).setR _ (.inr rfl)).setR _ (.inr rfl)).setR _ (.inr rfl)).setR _ (.inr rfl)).setR _ (.inr rfl)
theorem ac160(d:Nat)(hd:d≤3)(g o n c i:Nat)(xs:List Nat)(w:World)(hn:n=xs.length)(hl:n≤100000)(hi:i*wd d+wd d≤n)(hc:∀j u,(xs.map flv)[j]?=some u→w.cell? ⟨g,o+j,none⟩=some u):
  Calls Tryz.prog 160 #[.agg #[.int .u8 d,.slice (some ⟨g,o,none⟩) n c],.int .i64 i] w fun e w'=>e=.returned (.agg #[.float .f64 (plc d xs i).1,.float .f64 (plc d xs i).2.1,.float .f64 (plc d xs i).2.2.1,.float .f64 (plc d xs i).2.2.2,.int .u8 d])∧ZF w w':=by
 have hx:∀k,k < wd d→w.cell? ⟨g,o+(i*wd d+k),none⟩=some (.float .f64 (xs.getD (i*wd d+k) 0)):=fun k hk=>by
  refine hc _ _ ?_
  have hl2:i*wd d+k < xs.length:=by omega
  simp[List.getD_eq_getElem?_getD,hl2,flv]
 have hw:=wd_pos d
 have h0:=hx 0 (by omega)
 rw[Nat.add_zero] at h0
 refine get160 d (wd d) _ _ _ rfl rfl rfl (fun w1=>ac231 d hd w1) hw g o n c i _ _ (xs.getD (i*wd d+2) 0) (xs.getD (i*wd d+3) 0) _ _ ?_ w hi hl h0 (hx 1 (by omega)) (fun h=>hx 2 (by omega)) (fun h=>hx 3 (by omega))
 unfold plc
 have hd':d=0∨d=1∨d=2∨d=3:=by omega
 rcases hd' with rfl|rfl|rfl|rfl<;>simp[wd]
open Go.RowKit
theorem al_at1(w:World)(A B C D:Obj):((((w.alloc A).alloc B).alloc C).alloc D).heap[w.heap.size]?=some A∧((((w.alloc A).alloc B).alloc C).alloc D).heap[w.heap.size+1]?=some B∧((((w.alloc A).alloc B).alloc C).alloc D).heap[w.heap.size+1+1+1]?=some D:=by
 refine⟨?_,?_,?_⟩
 ·have h:=zN w A
  exact ((((Fr.refl (fun _=>False) (w.alloc A)).alloc B).alloc C).alloc D).block _ (zG h).1 (fun h=>h) |>.trans h
 ·have h:=zN (w.alloc A) B
  rw[sz1] at h
  exact (((Fr.refl (fun _=>False) ((w.alloc A).alloc B)).alloc C).alloc D).block _ (zG h).1 (fun h=>h) |>.trans h
 ·have h:=zN (((w.alloc A).alloc B).alloc C) D
  rw[sz1,sz1,sz1] at h
  exact h
theorem ac156(d:Nat)(hd:d≤3)(g o n c q:Nat)(w:World)(hn:n=q*wd d)(hl:n≤100000):Calls Tryz.prog 156 #[.agg #[.int .u8 d,.slice (some ⟨g,o,none⟩) n c]] w fun e w'=>e=.returned (.int .i64 q)∧ZF w w':=by
 have hd':d=0∨d=1∨d=2∨d=3:=by omega
 rcases hd' with rfl|rfl|rfl|rfl
 ·refine (ac156_0 g o n c q w hn hl).mono ?_
  rintro e w' ⟨h1,nq,rfl⟩
  exact⟨h1,((Fr.refl _ w).alloc _).drewN nq⟩
 ·refine (ac156_1 g o n c q w hn hl).mono ?_
  rintro e w' ⟨h1,nq,rfl⟩
  exact⟨h1,((Fr.refl _ w).alloc _).drewN nq⟩
 ·refine (ac156_2 g o n c q w hn hl).mono ?_
  rintro e w' ⟨h1,nq,rfl⟩
  exact⟨h1,((Fr.refl _ w).alloc _).drewN nq⟩
 ·refine (ac156_3 g o n c q w hn hl).mono ?_
  rintro e w' ⟨h1,nq,rfl⟩
  exact⟨h1,((Fr.refl _ w).alloc _).drewN nq⟩
theorem plain55(x y z m d:Nat)(hd:d≤3)(w:World):Calls Tryz.prog 55 #[.agg #[.float .f64 x,.float .f64 y,.float .f64 z,.float .f64 m,.int .u8 d,.bool true]] w (TrPost 1 1 d (G.mk 1 d (numsOf d (x,y,z,m)) []) w):=by
 have hsf:=st_fl
 have C132:=zH ac132
 have C133:=zH ac133
 obtain⟨z1,hz1⟩:∃z1,z1=(d % 2 == 1):=⟨_,rfl⟩
 obtain⟨z2,hz2⟩:∃z2,z2=(d / 2 % 2 == 1):=⟨_,rfl⟩
 have C70:Hid (∀w,Calls Tryz.prog 70 #[.int .u8 d] w fun e w'=>e=.returned (.bool z1)∧w=w'):=fun w=>by rw[hz1];exact (ac70 d hd w).mono (fun _ _ h=>⟨h.1,h.2.symm⟩)
 have C71:Hid (∀w,Calls Tryz.prog 71 #[.int .u8 d] w fun e w'=>e=.returned (.bool z2)∧w=w'):=fun w=>by rw[hz2];exact (ac71 d hd w).mono (fun _ _ h=>⟨h.1,h.2.symm⟩)
 have HX:Hid (numsOf d (x,y,z,m)=[x,y]++(if z1=true then [z] else [])++(if z2=true then [m] else [])):=by show _=_;unfold numsOf;rw[hz1,hz2];simp
 clear hz1 hz2
 obtain⟨i0,hi0,hz0,hz1,hz2⟩:=info_parts info40
 have hcv:IntKind.i64.wrap (d:Int)=d:=by simp[IntKind.wrap,IntKind.bits,IntKind.signed];omega
 have HD:=zH hd
 go_enter Tryz.func55,Tryz.ntmps55
 go_upto_region 2 with (go_at_call 132;refine (C132.out _ _ _ _ _ _ _).mono ?_;rintro e w1 ⟨rfl,rfl⟩)
 generalize hwA:(((w.alloc _).alloc _).alloc _).alloc _=wA
 have bA:=al_at1 w (.cells #[.float .f64 x,.float .f64 y,.float .f64 z,.float .f64 m,.int .u8 d,.bool true] 115) (.cells #[.int .i64 0,.int .i64 0,.slice none 0 0,.slice none 0 0] 27) (.cells #[.float .f64 x,.float .f64 y,.float .f64 z,.float .f64 m,.int .u8 d,.bool true] 115) (.cells #[.int .i64 1,.int .i64 d,.slice none 0 0,.slice none 0 0] 27)
 rw[hwA] at bA
 obtain⟨bA0,bA1,bA3⟩:=bA
 have p0:wA.cell? ⟨w.heap.size,0,none⟩=some (.float .f64 x):=by rw[zC bA0];rfl
 have p1:wA.cell? ⟨w.heap.size,1,none⟩=some (.float .f64 y):=by rw[zC bA0];rfl
 have p2:wA.cell? ⟨w.heap.size,2,none⟩=some (.float .f64 z):=by rw[zC bA0];rfl
 have p3:wA.cell? ⟨w.heap.size,3,none⟩=some (.float .f64 m):=by rw[zC bA0];rfl
 have p4:wA.cell? ⟨w.heap.size,4,none⟩=some (.int .u8 d):=by rw[zC bA0];rfl
 have p5:wA.cell? ⟨w.heap.size,5,none⟩=some (.bool true):=by rw[zC bA0];rfl
 have NA:Hid (NcAt w 1 d (.slice none 0 0) [] wA):=⟨by rw[←hwA];exact ((((Fr.refl _ w).alloc _).alloc _).alloc _).alloc _,bA1,bA3,World.ownsRow_nil _ _ _ _⟩
 have SA:Hid (wA.heap.size=w.heap.size+4):=by
  show _=_
  rw[←hwA,sz1,sz1,sz1,sz1]
 clear bA0 bA1 bA3 hwA
 go_upto_region 3 with (go_at_call 133;refine (C133.out _ _ _ _ _ _ _).mono ?_;rintro e w1 ⟨rfl,rfl⟩)
 generalize hwB:World.drew _=wB
 have NB:Hid (NcAt w 1 d (.slice none 0 0) [] wB):=NA.out.run (by rw[←hwB];exact ((((Fr.refl _ wA).alloc _).alloc _).alloc _).drew)
 obtain⟨cb,hcb⟩:∃cb,cb=wA.heap.size+1+1:=⟨_,rfl⟩
 have PB:Hid (PcAt w 113 cb #[.float .f64 x,.float .f64 y,.float .f64 z,.float .f64 m,.int .u8 d] (.slice none 0 0) wB):=by
  refine⟨?_,(by simp[Value.ownBlock]),by rw[hcb,SA.out];omega⟩
  have h:=zN ((wA.alloc (.cells #[.float .f64 x,.float .f64 y,.float .f64 z,.float .f64 m,.int .u8 d,.bool true] 115)).alloc (.cells #[.float .f64 x,.float .f64 y,.float .f64 z,.float .f64 m,.int .u8 d] 113)) (.cells #[.float .f64 x,.float .f64 y,.float .f64 z,.float .f64 m,.int .u8 d] 113)
  rw[sz1,sz1,←hcb] at h
  rw[←hwB]
  exact h
 rw[←hcb]
 clear hwB hcb p0 p1 p2 p3 p4 p5 NA SA
 obtain⟨o0,o1,o2,o3,of⟩:=g_cells (b:=w.heap.size+1+1+1) NB.out.o
 obtain⟨c0,c1,c2,c3,c4⟩:=pc_cells PB.out.1
 have K3:Hid (0+2≤maxLen):=by show _≤_;unfold maxLen;omega
 have K4:Hid ((0+2)*8≤140737488355328):=by show _≤_;omega
 have K5:=zH NB.out.k5
 have K7:=zH NB.out.k7
 go_upto_region 6 with (at_builtin;refine wpList_append_own_at _ rfl _ _ 24 rfl (w.heap.size+4) 40 i0 (.float .f64 0) 1 8 Tryz.underlying24 hi0 hz0 hz1 hz2 rfl (by decide) _ 0 (([]:List Nat).map flv) rfl (K7.out _) ⟨_,0,none⟩ 2 2 ([x,y].map flv) rfl rfl (two_new _ _ _ _) (all_one [x,y]) K3.out K4.out (K5.out _) ?_;intro v' w7 hown1 hgrow1 _ hat;obtain⟨g6,cap6,rfl,_,_⟩:=own_capE hown1 (by decide);have HH:=zH (NB.out.app (ys:=[x,y]) hown1 hgrow1);have HC:=zH (PB.out.app hgrow1 hat);clear hown1 hgrow1 hat;obtain⟨o0,o1,o2,o3,of⟩:=g_cells (b:=w.heap.size+1+1+1) HH.out.1;obtain⟨c0,c1,c2,c3,c4⟩:=pc_cells HC.out.1)
 obtain⟨w8,hw8⟩:∃w8,w8=w7.setCell ⟨w.heap.size+1+1+1,2,none⟩ (.slice (some ⟨g6,0,none⟩) (0+2) cap6):=⟨_,rfl⟩
 have NB8:Hid (NcAt w 1 d (.slice (some ⟨g6,0,none⟩) (0+2) cap6) [x,y] w8):=by rw[hw8];exact HH.out.2
 have PB8:Hid (PcAt w 113 cb #[.float .f64 x,.float .f64 y,.float .f64 z,.float .f64 m,.int .u8 d] (.slice (some ⟨g6,0,none⟩) (0+2) cap6) w8):=by rw[hw8];exact HC.out.2
 rw[←hw8]
 obtain⟨n6,hn6⟩:∃n6,n6=0+2:=⟨_,rfl⟩
 rw[←hn6] at NB8 PB8
 clear hw8 hn6 HH HC NB PB K3 K4 K5 K7 o0 o1 o2 o3 of c0 c1 c2 c3 c4
 obtain⟨NB,PB⟩:Hid (NcAt w 1 d (.slice (some ⟨g6,0,none⟩) n6 cap6) [x,y] w8)∧Hid (PcAt w 113 cb #[.float .f64 x,.float .f64 y,.float .f64 z,.float .f64 m,.int .u8 d] (.slice (some ⟨g6,0,none⟩) n6 cap6) w8):=⟨NB8,PB8⟩
 clear NB8 PB8
 obtain⟨o0,o1,o2,o3,of⟩:=g_cells (b:=w.heap.size+1+1+1) NB.out.o
 obtain⟨c0,c1,c2,c3,c4⟩:=pc_cells PB.out.1
 go_upto_if 31 with (go_at_call 70;refine (C70.out _).mono ?_;rintro e w' ⟨rfl,rfl⟩)
 go_cut [] from 31 to 38 (fun wr=>Hid (∃g N c:Nat,NcAt w 1 d (.slice (some ⟨g,0,none⟩) N c) ([x,y]++(if z1=true then [z] else [])) wr∧PcAt w 113 cb #[.float .f64 x,.float .f64 y,.float .f64 z,.float .f64 m,.int .u8 d] (.slice (some ⟨g,0,none⟩) N c) wr))
 case first =>
  cases z1 with
  | false =>
   have HR:Hid (NcAt w 1 d (.slice (some ⟨g6,0,none⟩) n6 cap6) ([x,y]++[]) w8):=by rw[List.append_nil];exact NB.out
   go_wp2_with fail
   go_meet
   exact⟨_,_,_,HR.out,PB.out⟩
  | true =>
   have hL:n6=([x,y]).length:=NB.out.len
   have hL2:([x,y]).length≤10:=by simp;try (split<;>simp)
   have hL3:n6+1≤11:=by omega
   have K3:Hid (n6+1≤maxLen):=by show _≤_;unfold maxLen;omega
   have K4:Hid ((n6+1)*8≤140737488355328):=by show _≤_;omega
   have K5:=zH NB.out.k5
   have K7:Hid (∀o,(w8.alloc o).ownsRow (w.heap.size+4) 40 1 (.slice (some ⟨g6,0,none⟩) n6 cap6) n6 (([x,y]).map flv)):=by rw[hL];intro o;have h:=NB.out.k7 o;rw[hL] at h;exact h
   have HL:=zH hL
   clear hL hL2
   go_wp2_with (at_builtin;refine wpList_append_own_at _ rfl _ _ 24 rfl (w.heap.size+4) 40 i0 (.float .f64 0) 1 8 Tryz.underlying24 hi0 hz0 hz1 hz2 rfl (by decide) _ n6 (([x,y]).map flv) rfl (K7.out _) ⟨_,0,none⟩ 1 1 ([z].map flv) rfl rfl (cell_one_new _ _ _) (all_one [z]) K3.out K4.out (K5.out _) ?_;intro v' w7 hown1 hgrow1 _ hat;obtain⟨g7,cap7,rfl,_,_⟩:=own_capE hown1 (by omega);have HH:=zH (NB.out.app (ys:=[z]) (by rw[←HL.out];exact hown1) hgrow1);have HC:=zH (PB.out.app hgrow1 hat);clear hown1 hgrow1 hat;obtain⟨o0,o1,o2,o3,of⟩:=g_cells (b:=w.heap.size+1+1+1) HH.out.1)
   go_meet
   exact⟨_,_,_,HH.out.2,HC.out.2⟩
 case rest =>
 clear o0 o1 o2 o3 of c0 c1 c2 c3 c4 NB PB
 obtain⟨w8,hw8⟩:∃w8,w8=wc:=⟨_,rfl⟩
 rw[←hw8] at hcut ⊢
 clear hw8 wc
 obtain⟨g6,n6,cap6,hNB,hPB⟩:=hcut.out
 have NB:=zH hNB
 have PB:=zH hPB
 clear hNB hPB hcut
 obtain⟨o0,o1,o2,o3,of⟩:=g_cells (b:=w.heap.size+1+1+1) NB.out.o
 obtain⟨c0,c1,c2,c3,c4⟩:=pc_cells PB.out.1
 go_upto_if 41 with (go_at_call 71;refine (C71.out _).mono ?_;rintro e w' ⟨rfl,rfl⟩)
 go_cut [] from 41 to 48 (fun wr=>Hid (∃g N c:Nat,NcAt w 1 d (.slice (some ⟨g,0,none⟩) N c) ([x,y]++(if z1=true then [z] else [])++(if z2=true then [m] else [])) wr∧PcAt w 113 cb #[.float .f64 x,.float .f64 y,.float .f64 z,.float .f64 m,.int .u8 d] (.slice (some ⟨g,0,none⟩) N c) wr))
 case first =>
  cases z2 with
  | false =>
   have HR:Hid (NcAt w 1 d (.slice (some ⟨g6,0,none⟩) n6 cap6) ([x,y]++(if z1=true then [z] else [])++[]) w8):=by rw[List.append_nil];exact NB.out
   go_wp2_with fail
   go_meet
   exact⟨_,_,_,HR.out,PB.out⟩
  | true =>
   have hL:n6=([x,y]++(if z1=true then [z] else [])).length:=NB.out.len
   have hL2:([x,y]++(if z1=true then [z] else [])).length≤10:=by simp;try (split<;>simp)
   have hL3:n6+1≤11:=by omega
   have K3:Hid (n6+1≤maxLen):=by show _≤_;unfold maxLen;omega
   have K4:Hid ((n6+1)*8≤140737488355328):=by show _≤_;omega
   have K5:=zH NB.out.k5
   have K7:Hid (∀o,(w8.alloc o).ownsRow (w.heap.size+4) 40 1 (.slice (some ⟨g6,0,none⟩) n6 cap6) n6 (([x,y]++(if z1=true then [z] else [])).map flv)):=by rw[hL];intro o;have h:=NB.out.k7 o;rw[hL] at h;exact h
   have HL:=zH hL
   clear hL hL2
   go_wp2_with (at_builtin;refine wpList_append_own_at _ rfl _ _ 24 rfl (w.heap.size+4) 40 i0 (.float .f64 0) 1 8 Tryz.underlying24 hi0 hz0 hz1 hz2 rfl (by decide) _ n6 (([x,y]++(if z1=true then [z] else [])).map flv) rfl (K7.out _) ⟨_,0,none⟩ 1 1 ([m].map flv) rfl rfl (cell_one_new _ _ _) (all_one [m]) K3.out K4.out (K5.out _) ?_;intro v' w7 hown1 hgrow1 _ hat;obtain⟨g7,cap7,rfl,_,_⟩:=own_capE hown1 (by omega);have HH:=zH (NB.out.app (ys:=[m]) (by rw[←HL.out];exact hown1) hgrow1);have HC:=zH (PB.out.app hgrow1 hat);clear hown1 hgrow1 hat;obtain⟨o0,o1,o2,o3,of⟩:=g_cells (b:=w.heap.size+1+1+1) HH.out.1)
   go_meet
   exact⟨_,_,_,HH.out.2,HC.out.2⟩
 case rest =>
 clear o0 o1 o2 o3 of c0 c1 c2 c3 c4 NB PB
 obtain⟨w8,hw8⟩:∃w8,w8=wc:=⟨_,rfl⟩
 rw[←hw8] at hcut ⊢
 clear hw8 wc
 obtain⟨g6,n6,cap6,hNB,hPB⟩:=hcut.out
 have NB:=zH hNB
 have PB:=zH hPB
 clear hNB hPB hcut
 obtain⟨o0,o1,o2,o3,of⟩:=g_cells (b:=w.heap.size+1+1+1) NB.out.o
 obtain⟨c0,c1,c2,c3,c4⟩:=pc_cells PB.out.1
 obtain⟨r0,r1,r2,r3,rf⟩:=g_cells (b:=w.heap.size+1) NB.out.res
 have HF:=zH (NB.out.post (by decide) HD.out (by simp;split<;>split<;>simp) (fr4 w8 (w.heap.size+1) (.int .i64 1) (.int .i64 d) (.slice (some ⟨g6,0,none⟩) n6 cap6) (.slice none 0 0)))
 rw[←HX.out] at HF
 go_wp2_with fail
 exact bodyPost_ret (v:=.agg #[.int .i64 1,.int .i64 d,.slice (some ⟨g6,0,none⟩) n6 cap6,.slice none 0 0]) (by simp[results,Tryz.f55,go_sem,r0,r1,r2,r3]) rfl HF.out
theorem plain135(d:Nat)(hd:d≤3)(g o n c:Nat)(xs:List Nat)(w:World)(hn:n=xs.length)(hl:n≤30000)(hm:n % wd d=0)(hc:∀j u,(xs.map flv)[j]?=some u→w.cell? ⟨g,o+j,none⟩=some u):Calls Tryz.prog 135 #[.agg #[.int .u8 d,.slice (some ⟨g,o,none⟩) n c]] w (TrPost 1 2 d (G.mk 2 d xs []) w):=by
 have hsf:=st_fl
 have C220:=zH ac220
 obtain⟨q,hq⟩:∃q,q=n / wd d:=⟨_,rfl⟩
 have hqm:n=q*wd d:=by rw[hq];exact (Nat.div_mul_cancel (Nat.dvd_of_mod_eq_zero hm)).symm
 have C156:Hid (∀w1,Calls Tryz.prog 156 #[.agg #[.int .u8 d,.slice (some ⟨g,o,none⟩) n c]] w1 fun e w'=>e=.returned (.int .i64 q)∧ZF w1 w'):=fun w1=>ac156 d hd g o n c q w1 hqm (by omega)
 obtain⟨z1,hz1⟩:∃z1,z1=(d % 2 == 1):=⟨_,rfl⟩
 obtain⟨z2,hz2⟩:∃z2,z2=(d / 2 % 2 == 1):=⟨_,rfl⟩
 have C70:Hid (∀w,Calls Tryz.prog 70 #[.int .u8 d] w fun e w'=>e=.returned (.bool z1)∧w=w'):=fun w=>by rw[hz1];exact (ac70 d hd w).mono (fun _ _ h=>⟨h.1,h.2.symm⟩)
 have C71:Hid (∀w,Calls Tryz.prog 71 #[.int .u8 d] w fun e w'=>e=.returned (.bool z2)∧w=w'):=fun w=>by rw[hz2];exact (ac71 d hd w).mono (fun _ _ h=>⟨h.1,h.2.symm⟩)
 have HX:Hid (∀p:Plc,numsOf d p=[p.1,p.2.1]++(if z1=true then [p.2.2.1] else [])++(if z2=true then [p.2.2.2] else [])):=fun p=>by unfold numsOf;rw[hz1,hz2];simp
 have HN:Hid (∀i,nums d ((List.range (i+1)).map (plc d xs))=nums d ((List.range i).map (plc d xs))++numsOf d (plc d xs i)):=fun i=>by
  unfold nums
  rw[List.range_succ,List.map_append,List.flatMap_append]
  simp
 have HL0:Hid (∀i,i≤q→(nums d ((List.range i).map (plc d xs))).length≤30000):=fun i hi=>by
  rw[nums_len]
  have:=Nat.mul_le_mul_right (wd d) hi
  simp
  omega
 have HALL:Hid (nums d ((List.range q).map (plc d xs))=xs):=by
  have h:=nums_places d hd xs (by rw[←hn];exact hm)
  unfold places at h
  rw[←hn,←hq] at h
  exact h
 have C160:Hid (∀i w1,i < q→ZF w w1→Calls Tryz.prog 160 #[.agg #[.int .u8 d,.slice (some ⟨g,o,none⟩) n c],.int .i64 i] w1 fun e w'=>e=.returned (.agg #[.float .f64 (plc d xs i).1,.float .f64 (plc d xs i).2.1,.float .f64 (plc d xs i).2.2.1,.float .f64 (plc d xs i).2.2.2,.int .u8 d])∧ZF w1 w'):=fun i w1 hi f=>by
  have:=Nat.mul_le_mul_right (wd d) (Nat.succ_le_of_lt hi)
  rw[Nat.succ_mul] at this
  exact ac160 d hd g o n c i xs w1 hn (by omega) (by omega) (fun j u hu=>f.cell (hc j u hu) (fun h=>h))
 have hq3:q≤30000:=by have:=wd_pos d;rw[hq];exact Nat.le_trans (Nat.div_le_self _ _) hl
 clear hz1 hz2 hq hqm hm hc
 obtain⟨i0,hi0,hz0,hz1,hz2⟩:=info_parts info40
 have hcv:IntKind.i64.wrap (d:Int)=d:=by simp[IntKind.wrap,IntKind.bits,IntKind.signed];omega
 have HD:=zH hd
 have HLN:=zH hn
 clear hn
 go_enter Tryz.func135,Tryz.ntmps135
 go_upto_region 2 with (go_at_call 220;refine (C220.out _ _ _ _ _ _).mono ?_;rintro e w1 ⟨rfl,rfl⟩)
 generalize hwA:(((w.alloc _).alloc _).alloc _).alloc _=wA
 have bA:=al_at1 w (.cells #[.int .u8 d,.slice (some ⟨g,o,none⟩) n c] 119) (.cells #[.int .i64 0,.int .i64 0,.slice none 0 0,.slice none 0 0] 27) (.cells #[.int .u8 d,.slice (some ⟨g,o,none⟩) n c] 119) (.cells #[.int .i64 2,.int .i64 d,.slice none 0 0,.slice none 0 0] 27)
 rw[hwA] at bA
 obtain⟨bA0,bA1,bA3⟩:=bA
 have NA:Hid (NcAt w 2 d (.slice none 0 0) [] wA):=⟨by rw[←hwA];exact ((((Fr.refl _ w).alloc _).alloc _).alloc _).alloc _,bA1,bA3,World.ownsRow_nil _ _ _ _⟩
 have PA:Hid (PcAt w 119 w.heap.size #[.int .u8 d,.slice (some ⟨g,o,none⟩) n c] (.slice none 0 0) wA):=⟨bA0,by simp[Value.ownBlock],by omega⟩
 clear bA0 bA1 bA3 hwA
 go_wp2_with fail
 go_loopw [4] (fun iv wr=>∃i:Nat,iv=.int .i64 i∧i≤q∧Hid (∃(a:Option Addr) (N c9:Nat),NcAt w 2 d (.slice a N c9) (nums d ((List.range i).map (plc d xs))) wr∧PcAt w 119 w.heap.size #[.int .u8 d,.slice (some ⟨g,o,none⟩) n c] (.slice a N c9) wr)) (fun iv _=>q - (intOf iv).toNat)
 case atStart=>exact⟨0,rfl,Nat.zero_le _,none,0,0,NA.out,PA.out⟩
 case round =>
  obtain⟨i,rfl,hi,hrel⟩:=hrel
  obtain⟨a,N,c9,hNB,hPB⟩:=hrel.out
  have NR:=zH hNB
  have PR:=zH hPB
  clear hNB hPB hrel NA PA
  have b0:wr.cell? ⟨w.heap.size,0,none⟩=some (.int .u8 d):=by rw[zC PR.out.1];rfl
  have b1:wr.cell? ⟨w.heap.size,1,none⟩=some (.slice (some ⟨g,o,none⟩) n c):=by rw[zC PR.out.1];rfl
  go_upto_if 13 with (go_at_call 156;refine (C156.out _).mono ?_;rintro e w1 ⟨rfl,f1⟩;have F1:=zH f1;clear f1)
  clear b0 b1
  have N1:=zH (NR.out.run F1.out)
  have P1:=zH (PR.out.run F1.out)
  clear NR PR F1
  by_cases hlt:i < q
  ·have b0:w1.cell? ⟨w.heap.size,0,none⟩=some (.int .u8 d):=by rw[zC P1.out.1];rfl
   have b1:w1.cell? ⟨w.heap.size,1,none⟩=some (.slice (some ⟨g,o,none⟩) n c):=by rw[zC P1.out.1];rfl
   have C:=zH (C160.out i w1 hlt N1.out.fr)
   have HP:=zH (HX.out (plc d xs i))
   have HNI:=zH (HN.out i)
   have HLI:=HL0.out i hi
   obtain⟨X0,hX0⟩:∃X0,X0=nums d ((List.range i).map (plc d xs)):=⟨_,rfl⟩
   rw[←hX0] at N1 HNI HLI
   obtain⟨nx,hnx⟩:∃nx,nx=X0.length:=⟨_,rfl⟩
   rw[←hnx] at HLI
   have HNX:=zH hnx
   obtain⟨x,hx⟩:∃x,x=(plc d xs i).1:=⟨_,rfl⟩
   obtain⟨y,hy⟩:∃y,y=(plc d xs i).2.1:=⟨_,rfl⟩
   obtain⟨z,hz⟩:∃z,z=(plc d xs i).2.2.1:=⟨_,rfl⟩
   obtain⟨m,hm⟩:∃m,m=(plc d xs i).2.2.2:=⟨_,rfl⟩
   rw[←hx,←hy,←hz,←hm] at C HP
   clear hx hy hz hm hX0 hnx
   go_upto_region 6 with (go_at_call 160;refine C.out.mono ?_;rintro e w2 ⟨rfl,f2⟩;have F2:=zH f2;clear f2)
   obtain⟨cb,hcb⟩:∃cb,cb=w2.heap.size:=⟨_,rfl⟩
   obtain⟨w3,hw3⟩:∃w3,w3=w2.alloc (.cells #[.float .f64 x,.float .f64 y,.float .f64 z,.float .f64 m,.int .u8 d] 113):=⟨_,rfl⟩
   have NB:Hid (NcAt w 2 d (.slice a N c9) X0 w3):=N1.out.run (by rw[hw3];exact F2.out.alloc _)
   have PB:Hid (PcAt w 113 cb #[.float .f64 x,.float .f64 y,.float .f64 z,.float .f64 m,.int .u8 d] (.slice a N c9) w3∧PcAt w 119 w.heap.size #[.int .u8 d,.slice (some ⟨g,o,none⟩) n c] (.slice a N c9) w3):=by
    refine⟨⟨by rw[hw3,hcb];exact zN w2 _,fun e=>?_,?_⟩,P1.out.run (by rw[hw3];exact F2.out.alloc _)⟩
    ·have h1:=(N1.out.own.lt cb e.symm).2
     have h2:=F2.out.size
     omega
    ·have h1:=N1.out.sz
     have h2:=F2.out.size
     omega
   rw[←hw3,←hcb]
   clear hw3 hcb b0 b1 N1 P1 F2 C
   have hN:N=nx:=by rw[HNX.out];exact NB.out.len
   obtain⟨o0,o1,o2,o3,of⟩:=g_cells (b:=w.heap.size+1+1+1) NB.out.o
   obtain⟨c0,c1,c2,c3,c4⟩:=pc_cells PB.out.1.1
   have K3:Hid (N+2≤maxLen):=by show _≤_;unfold maxLen;omega
   have K4:Hid ((N+2)*8≤140737488355328):=by show _≤_;omega
   have K5:=zH NB.out.k5
   have HL:=zH NB.out.len
   have K7:Hid (∀o,(w3.alloc o).ownsRow (w.heap.size+4) 40 1 (.slice a N c9) N (X0.map flv)):=fun o=>by have h:=NB.out.k7 o;rw[←HL.out] at h;exact h
   clear hN
   go_upto_region 7 with (at_builtin;refine wpList_append_own_at _ rfl _ _ 24 rfl (w.heap.size+4) 40 i0 (.float .f64 0) 1 8 Tryz.underlying24 hi0 hz0 hz1 hz2 rfl (by decide) _ N (X0.map flv) rfl (K7.out _) ⟨_,0,none⟩ 2 2 ([x,y].map flv) rfl rfl (two_new _ _ _ _) (all_one [x,y]) K3.out K4.out (K5.out _) ?_;intro v' w7 hown1 hgrow1 _ hat;obtain⟨g6,cap6,rfl,_,_⟩:=own_capE hown1 (by omega);have HH:=zH (NB.out.app (ys:=[x,y]) (by rw[←HL.out];exact hown1) hgrow1);have HC:=zH (PB.out.1.app hgrow1 hat);have HB:=zH (PB.out.2.app hgrow1 hat);clear hown1 hgrow1 hat;obtain⟨o0,o1,o2,o3,of⟩:=g_cells (b:=w.heap.size+1+1+1) HH.out.1;obtain⟨c0,c1,c2,c3,c4⟩:=pc_cells HC.out.1)
   obtain⟨w8,hw8⟩:∃w8,w8=w7.setCell ⟨w.heap.size+1+1+1,2,none⟩ (.slice (some ⟨g6,0,none⟩) (N+2) cap6):=⟨_,rfl⟩
   have NB8:Hid (NcAt w 2 d (.slice (some ⟨g6,0,none⟩) (N+2) cap6) (X0++[x,y]) w8):=by rw[hw8];exact HH.out.2
   have PB8:Hid (PcAt w 113 cb #[.float .f64 x,.float .f64 y,.float .f64 z,.float .f64 m,.int .u8 d] (.slice (some ⟨g6,0,none⟩) (N+2) cap6) w8∧PcAt w 119 w.heap.size #[.int .u8 d,.slice (some ⟨g,o,none⟩) n c] (.slice (some ⟨g6,0,none⟩) (N+2) cap6) w8):=by rw[hw8];exact⟨HC.out.2,HB.out.2⟩
   rw[←hw8]
   obtain⟨n6,hn6⟩:∃n6,n6=N+2:=⟨_,rfl⟩
   rw[←hn6] at NB8 PB8
   clear hw8 hn6 HH HC HB NB PB K3 K4 K5 K7 HL o0 o1 o2 o3 of c0 c1 c2 c3 c4
   obtain⟨NB,PB⟩:Hid (NcAt w 2 d (.slice (some ⟨g6,0,none⟩) n6 cap6) (X0++[x,y]) w8)∧Hid (PcAt w 113 cb #[.float .f64 x,.float .f64 y,.float .f64 z,.float .f64 m,.int .u8 d] (.slice (some ⟨g6,0,none⟩) n6 cap6) w8∧PcAt w 119 w.heap.size #[.int .u8 d,.slice (some ⟨g,o,none⟩) n c] (.slice (some ⟨g6,0,none⟩) n6 cap6) w8):=⟨NB8,PB8⟩
   clear NB8 PB8
   obtain⟨o0,o1,o2,o3,of⟩:=g_cells (b:=w.heap.size+1+1+1) NB.out.o
   obtain⟨c0,c1,c2,c3,c4⟩:=pc_cells PB.out.1.1
   go_upto_if 32 with (go_at_call 70;refine (C70.out _).mono ?_;rintro e w' ⟨rfl,rfl⟩)
   go_cut [] from 32 to 39 (fun wr=>Hid (∃g9 N c9:Nat,NcAt w 2 d (.slice (some ⟨g9,0,none⟩) N c9) (X0++[x,y]++(if z1=true then [z] else [])) wr∧PcAt w 113 cb #[.float .f64 x,.float .f64 y,.float .f64 z,.float .f64 m,.int .u8 d] (.slice (some ⟨g9,0,none⟩) N c9) wr∧PcAt w 119 w.heap.size #[.int .u8 d,.slice (some ⟨g,o,none⟩) n c] (.slice (some ⟨g9,0,none⟩) N c9) wr))
   case first =>
    cases z1 with
    | false =>
     have HR:Hid (NcAt w 2 d (.slice (some ⟨g6,0,none⟩) n6 cap6) (X0++[x,y]++[]) w8):=by rw[List.append_nil];exact NB.out
     go_wp2_with fail
     go_meet
     exact⟨_,_,_,HR.out,PB.out.1,PB.out.2⟩
    | true =>
     have hL:n6=(X0++[x,y]).length:=NB.out.len
     have HL2:Hid ((X0++[x,y]).length≤nx+10):=by show _≤_;rw[HNX.out];simp;try (split<;>simp)
     have hL3:n6+1≤nx+11:=by have:=HL2.out;omega
     have K3:Hid (n6+1≤maxLen):=by show _≤_;unfold maxLen;omega
     have K4:Hid ((n6+1)*8≤140737488355328):=by show _≤_;omega
     have K5:=zH NB.out.k5
     have K7:Hid (∀o,(w8.alloc o).ownsRow (w.heap.size+4) 40 1 (.slice (some ⟨g6,0,none⟩) n6 cap6) n6 ((X0++[x,y]).map flv)):=by rw[hL];intro o;have h:=NB.out.k7 o;rw[hL] at h;exact h
     have HL:=zH hL
     clear hL HL2
     go_wp2_with (at_builtin;refine wpList_append_own_at _ rfl _ _ 24 rfl (w.heap.size+4) 40 i0 (.float .f64 0) 1 8 Tryz.underlying24 hi0 hz0 hz1 hz2 rfl (by decide) _ n6 ((X0++[x,y]).map flv) rfl (K7.out _) ⟨_,0,none⟩ 1 1 ([z].map flv) rfl rfl (cell_one_new _ _ _) (all_one [z]) K3.out K4.out (K5.out _) ?_;intro v' w7 hown1 hgrow1 _ hat;obtain⟨g7,cap7,rfl,_,_⟩:=own_capE hown1 (by omega);have HH:=zH (NB.out.app (ys:=[z]) (by rw[←HL.out];exact hown1) hgrow1);have HC:=zH (PB.out.1.app hgrow1 hat);have HB:=zH (PB.out.2.app hgrow1 hat);clear hown1 hgrow1 hat;obtain⟨o0,o1,o2,o3,of⟩:=g_cells (b:=w.heap.size+1+1+1) HH.out.1)
     go_meet
     exact⟨_,_,_,HH.out.2,HC.out.2,HB.out.2⟩
   case rest =>
   clear o0 o1 o2 o3 of c0 c1 c2 c3 c4 NB PB
   obtain⟨w8,hw8⟩:∃w8,w8=wc:=⟨_,rfl⟩
   rw[←hw8] at hcut ⊢
   clear hw8 wc
   obtain⟨g6,n6,cap6,hNB,hPB⟩:=hcut.out
   have NB:=zH hNB
   have PB:=zH hPB
   clear hNB hPB hcut
   obtain⟨o0,o1,o2,o3,of⟩:=g_cells (b:=w.heap.size+1+1+1) NB.out.o
   obtain⟨c0,c1,c2,c3,c4⟩:=pc_cells PB.out.1.1
   go_upto_if 42 with (go_at_call 71;refine (C71.out _).mono ?_;rintro e w' ⟨rfl,rfl⟩)
   cases z2 with
   | false =>
    have NF:Hid (NcAt w 2 d (.slice (some ⟨g6,0,none⟩) n6 cap6) (nums d ((List.range (i+1)).map (plc d xs))) w8):=by
     show NcAt _ _ _ _ _ _
     rw[HNI.out,HP.out]
     have:=NB.out
     simp only[List.append_assoc,List.append_nil,Bool.false_eq_true,if_false] at this ⊢
     exact this
    have PF:=zH PB.out.2
    clear NB PB o0 o1 o2 o3 of c0 c1 c2 c3 c4
    go_wp2_with fail
    go_roundw
    case rel=>exact⟨i+1,by go_num,by omega,_,_,_,NF.out,PF.out⟩
    case measure=>simp[intOf];omega
   | true =>
    have hL:n6=(X0++[x,y]++(if z1=true then [z] else [])).length:=NB.out.len
    have HL2:Hid ((X0++[x,y]++(if z1=true then [z] else [])).length≤nx+10):=by show _≤_;rw[HNX.out];simp;try (split<;>simp)
    have hL3:n6+1≤nx+11:=by have:=HL2.out;omega
    have K3:Hid (n6+1≤maxLen):=by show _≤_;unfold maxLen;omega
    have K4:Hid ((n6+1)*8≤140737488355328):=by show _≤_;omega
    have K5:=zH NB.out.k5
    have K7:Hid (∀o,(w8.alloc o).ownsRow (w.heap.size+4) 40 1 (.slice (some ⟨g6,0,none⟩) n6 cap6) n6 ((X0++[x,y]++(if z1=true then [z] else [])).map flv)):=by rw[hL];intro o;have h:=NB.out.k7 o;rw[hL] at h;exact h
    have HL:=zH hL
    clear hL HL2
    go_wp2_with (at_builtin;refine wpList_append_own_at _ rfl _ _ 24 rfl (w.heap.size+4) 40 i0 (.float .f64 0) 1 8 Tryz.underlying24 hi0 hz0 hz1 hz2 rfl (by decide) _ n6 ((X0++[x,y]++(if z1=true then [z] else [])).map flv) rfl (K7.out _) ⟨_,0,none⟩ 1 1 ([m].map flv) rfl rfl (cell_one_new _ _ _) (all_one [m]) K3.out K4.out (K5.out _) ?_;intro v' w7 hown1 hgrow1 _ hat;obtain⟨g7,cap7,rfl,_,_⟩:=own_capE hown1 (by omega);have HH:=zH (NB.out.app (ys:=[m]) (by rw[←HL.out];exact hown1) hgrow1);have HB:=zH (PB.out.2.app hgrow1 hat);clear hown1 hgrow1 hat;obtain⟨o0,o1,o2,o3,of⟩:=g_cells (b:=w.heap.size+1+1+1) HH.out.1)
    have NF:Hid (NcAt w 2 d (.slice (some ⟨g7,0,none⟩) (n6+1) cap7) (nums d ((List.range (i+1)).map (plc d xs))) (w7.setCell ⟨w.heap.size+1+1+1,2,none⟩ (.slice (some ⟨g7,0,none⟩) (n6+1) cap7))):=by
     show NcAt _ _ _ _ _ _
     rw[HNI.out,HP.out]
     have:=HH.out.2
     simp only[List.append_assoc,if_true] at this ⊢
     exact this
    go_roundw
    case rel=>exact⟨i+1,by go_num,by omega,_,_,_,NF.out,HB.out.2⟩
    case measure=>simp[intOf];omega
  ·have hiq:i=q:=by omega
   subst hiq
   have N2:Hid (NcAt w 2 d (.slice a N c9) xs w1):=by
    have h:=N1.out
    rw[HALL.out] at h
    exact h
   obtain⟨r0,r1,r2,r3,rf⟩:=g_cells (b:=w.heap.size+1) N2.out.res
   obtain⟨o0,o1,o2,o3,of⟩:=g_cells (b:=w.heap.size+1+1+1) N2.out.o
   have HF:=zH (N2.out.post (by decide) HD.out (by rw[←HLN.out];exact hl) (fr4 w1 (w.heap.size+1) (.int .i64 2) (.int .i64 d) (.slice a N c9) (.slice none 0 0)))
   clear N1 N2 P1
   go_wp2_with fail
   exact bodyPost_ret (v:=.agg #[.int .i64 2,.int .i64 d,.slice a N c9,.slice none 0 0]) (by simp[results,Tryz.f135,go_sem,r0,r1,r2,r3]) rfl HF.out
end Go.Proofs.YtnjjgbcmjnfijaaGreatDoor
