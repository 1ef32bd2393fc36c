/- The contracts of library functions that this proof takes off the shelf, laid at this program by commands of the kit. No condition. -/
import Derived.Ground.MnProg
import Derived.Shelf.Bin.PutUvarint
import Derived.Shelf.Bin.PutVarint
import Derived.Shelf.Bin.Uvarint
import Derived.Shelf.Bin.Varint
import Derived.Shelf.Bin.UvarintEmpty
import Derived.Shelf.Bin.VarintEmpty
import Derived.Test.YtnjjgbcmjnfijaaGreatDoorProg
import Derived.Test.YtnjjgbcmjnfijaaGreatDoorPz
import Derived.Deep.QuietTactic
import Derived.BigQuiet
namespace Go.Proofs
open Go.Shelf
def Tryz.laysBin46_ren:Go.Shelf.Ren:=⟨fun | 46=>287|n=>n,fun | 22=>22 | 33=>34 | 3=>3 | 4=>4 | 5=>5 | 0=>0 | 45=>35|n=>n,fun|n=>n⟩
theorem Tryz.laysBin46:Go.Proofs.LaysBin.n46 Tryz.prog Tryz.laysBin46_ren:={
 mixed:=by kernel_rfl
 f46:=Tryz.func287.trans (congrArg some (by kernel_rfl))
 t0:=Tryz.underlying0
 a0:=Tryz.isAgg0
 z0:=Tryz.sizeOf0
 v0:=Tryz.zeroValue0
 i0:=by kernel_rfl
 t3:=Tryz.underlying3
 a3:=Tryz.isAgg3
 z3:=Tryz.sizeOf3
 v3:=Tryz.zeroValue3
 i3:=by kernel_rfl
 t4:=Tryz.underlying4
 a4:=Tryz.isAgg4
 z4:=Tryz.sizeOf4
 v4:=Tryz.zeroValue4
 i4:=by kernel_rfl
 t5:=Tryz.underlying5
 a5:=Tryz.isAgg5
 z5:=Tryz.sizeOf5
 v5:=Tryz.zeroValue5
 i5:=by kernel_rfl
 t22:=Tryz.underlying22
 a22:=Tryz.isAgg22
 z22:=Tryz.sizeOf22
 v22:=Tryz.zeroValue22
 i22:=by kernel_rfl
 t33:=Tryz.underlying34
 a33:=Tryz.isAgg34
 z33:=Tryz.sizeOf34
 v33:=Tryz.zeroValue34
 i33:=by kernel_rfl
 t45:=Tryz.underlying35
 a45:=Tryz.isAgg35
 z45:=Tryz.sizeOf35
 v45:=Tryz.zeroValue35
 i45:=by kernel_rfl }
open Go.RowKit in
theorem Tryz.binary_PutUvarint(g o n c x:Nat)(hx:x < 18446744073709551616)(w:World)(hn:(Lib.uvarint x).length≤n)(hcell:∀j,j < (Lib.uvarint x).length→(w.cell? ⟨g,o+j,none⟩).isSome=true∧w.frozen? ⟨g,o+j,none⟩=false):
  Calls Tryz.prog 287 #[.slice (some ⟨g,o,none⟩) n c,.int .u64 x] w fun e w'=>e=.returned (.int .i64 (Lib.uvarint x).length)∧w'=w.setCells g o (Lib.byteCells (Lib.uvarint x)):=Any.binary_PutUvarint Tryz.laysBin46 g o n c x hx w hn hcell
def Tryz.laysBin49_ren:Go.Shelf.Ren:=⟨fun | 49=>286 | 46=>287|n=>n,fun | 22=>22 | 2=>2 | 3=>3 | 33=>34 | 45=>35 | 4=>4 | 5=>5 | 0=>0|n=>n,fun|n=>n⟩
theorem Tryz.laysBin49:Go.Proofs.LaysBin.n49 Tryz.prog Tryz.laysBin49_ren:={
 mixed:=by kernel_rfl
 f46:=Tryz.func287.trans (congrArg some (by kernel_rfl))
 f49:=Tryz.func286.trans (congrArg some (by kernel_rfl))
 t0:=Tryz.underlying0
 a0:=Tryz.isAgg0
 z0:=Tryz.sizeOf0
 v0:=Tryz.zeroValue0
 i0:=by kernel_rfl
 t2:=Tryz.underlying2
 a2:=Tryz.isAgg2
 z2:=Tryz.sizeOf2
 v2:=Tryz.zeroValue2
 i2:=by kernel_rfl
 t3:=Tryz.underlying3
 a3:=Tryz.isAgg3
 z3:=Tryz.sizeOf3
 v3:=Tryz.zeroValue3
 i3:=by kernel_rfl
 t4:=Tryz.underlying4
 a4:=Tryz.isAgg4
 z4:=Tryz.sizeOf4
 v4:=Tryz.zeroValue4
 i4:=by kernel_rfl
 t5:=Tryz.underlying5
 a5:=Tryz.isAgg5
 z5:=Tryz.sizeOf5
 v5:=Tryz.zeroValue5
 i5:=by kernel_rfl
 t22:=Tryz.underlying22
 a22:=Tryz.isAgg22
 z22:=Tryz.sizeOf22
 v22:=Tryz.zeroValue22
 i22:=by kernel_rfl
 t33:=Tryz.underlying34
 a33:=Tryz.isAgg34
 z33:=Tryz.sizeOf34
 v33:=Tryz.zeroValue34
 i33:=by kernel_rfl
 t45:=Tryz.underlying35
 a45:=Tryz.isAgg35
 z45:=Tryz.sizeOf35
 v45:=Tryz.zeroValue35
 i45:=by kernel_rfl }
open Go.RowKit in
theorem Tryz.binary_PutVarint(g o n c:Nat)(x:Int)(h0 : -9223372036854775808≤x)(h1:x≤9223372036854775807)(w:World)(hn:(Lib.uvarint (Lib.zigzag x)).length≤n)(hcell:∀j,j < (Lib.uvarint (Lib.zigzag x)).length→(w.cell? ⟨g,o+j,none⟩).isSome=true∧w.frozen? ⟨g,o+j,none⟩=false):
  Calls Tryz.prog 286 #[.slice (some ⟨g,o,none⟩) n c,.int .i64 x] w fun e w'=>e=.returned (.int .i64 (Lib.uvarint (Lib.zigzag x)).length)∧w'=w.setCells g o (Lib.byteCells (Lib.uvarint (Lib.zigzag x))):=Any.binary_PutVarint Tryz.laysBin49 g o n c x h0 h1 w hn hcell
def Tryz.laysBin45_ren:Go.Shelf.Ren:=⟨fun | 45=>290|n=>n,fun | 22=>22 | 33=>34 | 3=>3 | 45=>35 | 0=>0 | 5=>5 | 4=>4|n=>n,fun|n=>n⟩
theorem Tryz.laysBin45:Go.Proofs.LaysBin.n45 Tryz.prog Tryz.laysBin45_ren:={
 mixed:=by kernel_rfl
 f45:=Tryz.func290.trans (congrArg some (by kernel_rfl))
 t0:=Tryz.underlying0
 a0:=Tryz.isAgg0
 z0:=Tryz.sizeOf0
 v0:=Tryz.zeroValue0
 i0:=by kernel_rfl
 t3:=Tryz.underlying3
 a3:=Tryz.isAgg3
 z3:=Tryz.sizeOf3
 v3:=Tryz.zeroValue3
 i3:=by kernel_rfl
 t4:=Tryz.underlying4
 a4:=Tryz.isAgg4
 z4:=Tryz.sizeOf4
 v4:=Tryz.zeroValue4
 i4:=by kernel_rfl
 t5:=Tryz.underlying5
 a5:=Tryz.isAgg5
 z5:=Tryz.sizeOf5
 v5:=Tryz.zeroValue5
 i5:=by kernel_rfl
 t22:=Tryz.underlying22
 a22:=Tryz.isAgg22
 z22:=Tryz.sizeOf22
 v22:=Tryz.zeroValue22
 i22:=by kernel_rfl
 t33:=Tryz.underlying34
 a33:=Tryz.isAgg34
 z33:=Tryz.sizeOf34
 v33:=Tryz.zeroValue34
 i33:=by kernel_rfl
 t45:=Tryz.underlying35
 a45:=Tryz.isAgg35
 z45:=Tryz.sizeOf35
 v45:=Tryz.zeroValue35
 i45:=by kernel_rfl }
open Go.RowKit in
theorem Tryz.binary_Uvarint(g o n c:Nat)(l:List UInt8)(w:World)(hl:l.length=n)(hcell:∀j (hj:j < l.length),w.cell? ⟨g,o+j,none⟩=some (.int .u8 (l[j]).toNat)):
  Calls Tryz.prog 290 #[.slice (some ⟨g,o,none⟩) n c] w fun e w'=>e=.returned (.tuple #[.int .u64 (Lib.uvarintDec l).1,.int .i64 (Lib.uvarintDec l).2])∧w'=w:=Any.binary_Uvarint Tryz.laysBin45 g o n c l w hl hcell
def Tryz.laysBin48_ren:Go.Shelf.Ren:=⟨fun | 48=>291 | 45=>290|n=>n,fun | 22=>22 | 2=>2 | 3=>3 | 38=>361 | 33=>34 | 45=>35 | 4=>4 | 0=>0 | 5=>5|n=>n,fun|n=>n⟩
theorem Tryz.laysBin48:Go.Proofs.LaysBin.n48 Tryz.prog Tryz.laysBin48_ren:={
 mixed:=by kernel_rfl
 f45:=Tryz.func290.trans (congrArg some (by kernel_rfl))
 f48:=Tryz.func291.trans (congrArg some (by kernel_rfl))
 t0:=Tryz.underlying0
 a0:=Tryz.isAgg0
 z0:=Tryz.sizeOf0
 v0:=Tryz.zeroValue0
 i0:=by kernel_rfl
 t2:=Tryz.underlying2
 a2:=Tryz.isAgg2
 z2:=Tryz.sizeOf2
 v2:=Tryz.zeroValue2
 i2:=by kernel_rfl
 t3:=Tryz.underlying3
 a3:=Tryz.isAgg3
 z3:=Tryz.sizeOf3
 v3:=Tryz.zeroValue3
 i3:=by kernel_rfl
 t4:=Tryz.underlying4
 a4:=Tryz.isAgg4
 z4:=Tryz.sizeOf4
 v4:=Tryz.zeroValue4
 i4:=by kernel_rfl
 t5:=Tryz.underlying5
 a5:=Tryz.isAgg5
 z5:=Tryz.sizeOf5
 v5:=Tryz.zeroValue5
 i5:=by kernel_rfl
 t22:=Tryz.underlying22
 a22:=Tryz.isAgg22
 z22:=Tryz.sizeOf22
 v22:=Tryz.zeroValue22
 i22:=by kernel_rfl
 t33:=Tryz.underlying34
 a33:=Tryz.isAgg34
 z33:=Tryz.sizeOf34
 v33:=Tryz.zeroValue34
 i33:=by kernel_rfl
 t38:=Tryz.underlying361
 a38:=Tryz.isAgg361
 z38:=Tryz.sizeOf361
 v38:=Tryz.zeroValue361
 i38:=by kernel_rfl
 t45:=Tryz.underlying35
 a45:=Tryz.isAgg35
 z45:=Tryz.sizeOf35
 v45:=Tryz.zeroValue35
 i45:=by kernel_rfl }
open Go.RowKit in
theorem Tryz.binary_Varint(g o n c:Nat)(l:List UInt8)(w:World)(hl:l.length=n)(hcell:∀j (hj:j < l.length),w.cell? ⟨g,o+j,none⟩=some (.int .u8 (l[j]).toNat)):
  Calls Tryz.prog 291 #[.slice (some ⟨g,o,none⟩) n c] w fun e w'=>e=.returned (.tuple #[.int .i64 (Lib.varintDec l).1,.int .i64 (Lib.varintDec l).2])∧w'=w:=Any.binary_Varint Tryz.laysBin48 g o n c l w hl hcell
open Go.RowKit in
theorem Tryz.binary_Uvarint_empty(ao:Option Addr)(c:Nat)(w:World):
  Calls Tryz.prog 290 #[.slice ao 0 c] w fun e w'=>e=.returned (.tuple #[.int .u64 (Lib.uvarintDec []).1,.int .i64 (Lib.uvarintDec []).2])∧w'=w:=Any.binary_Uvarint_empty Tryz.laysBin45 ao c w
open Go.RowKit in
theorem Tryz.binary_Varint_empty(ao:Option Addr)(c:Nat)(w:World):
  Calls Tryz.prog 291 #[.slice ao 0 c] w fun e w'=>e=.returned (.tuple #[.int .i64 (Lib.varintDec []).1,.int .i64 (Lib.varintDec []).2])∧w'=w:=Any.binary_Varint_empty Tryz.laysBin48 ao c w
end Go.Proofs
namespace Go.Proofs.YtnjjgbcmjnfijaaGreatDoor
set_option maxRecDepth 100000
set_option maxHeartbeats 2000000
open Go.RowKit
structure Pr where
 pos:Nat
 kind:Nat
 dm:Nat
 dims:Nat
 px:Int
 hz:Bool
 hm:Bool
 pz:Nat
 pm:Nat
 sc:Nat→Nat
 bb:Bool
 si:Bool
 ix:Bool
 ex:Bool
 em:Bool
 bv:Value
 iv:Value
 rf:Nat→Int
def Pr.cells (p:Pr) (tv:Value):Array Value:=#[tv,.int .i64 p.pos,.int .i64 p.kind,.int .u8 p.dm,.int .i64 p.dims,.int .i64 p.px,.bool p.hz,.bool p.hm,.int .i64 p.pz,.int .i64 p.pm,.float .f64 (p.sc 0),.float .f64 (p.sc 1),.float .f64 (p.sc 2),.float .f64 (p.sc 3),
 .bool p.bb,.bool p.si,.bool p.ix,.bool p.ex,.bool p.em,p.bv,p.iv,.int .i64 (p.rf 0),.int .i64 (p.rf 1),.int .i64 (p.rf 2),.int .i64 (p.rf 3)]
def TxAt (tb tf:Nat) (T:List UInt8) (w:World):Prop:=∀j (hj:j < T.length),w.cell? ⟨tb,tf+j,none⟩=some (.int .u8 (T[j]).toNat)
structure PrAt (pb tb tf tc:Nat) (T:List UInt8) (p:Pr) (w:World):Prop where
 blk:w.heap[pb]?=some (.cells (p.cells (.slice (some ⟨tb,tf,none⟩) T.length tc)) 98 (0,0))
 txt:TxAt tb tf T w
 ne:tb≠pb
 pos:p.pos≤T.length
 len:T.length≤tc∧T.length≤100000000
theorem TxAt.fr{R:Nat→Prop}{tb tf:Nat}{T:List UInt8}{w w':World}(h:TxAt tb tf T w)(f:Fr R w w')(hn:¬R tb):TxAt tb tf T w':=fun j hj=>f.cell (h j hj) hn
theorem TxAt.drop{tb tf:Nat}{T:List UInt8}{w:World}(h:TxAt tb tf T w)(k:Nat):∀j (hj:j < (T.drop k).length),w.cell? ⟨tb,tf+k+j,none⟩=some (.int .u8 ((T.drop k)[j]).toNat):=fun j hj=>by
 have hj2:k+j < T.length:=by rw[List.length_drop] at hj;omega
 have:=h (k+j) hj2
 rw[List.getElem_drop,Nat.add_assoc]
 exact this
section
variable {pb tb tf tc:Nat}{T:List UInt8}{p:Pr}{w w':World}
theorem PrAt.lt(h:PrAt pb tb tf tc T p w):pb < w.heap.size:=(zG h.blk).1
theorem PrAt.fr{R:Nat→Prop}(h:PrAt pb tb tf tc T p w)(f:Fr R w w')(hp:¬R pb)(ht:¬R tb):PrAt pb tb tf tc T p w' :=
 ⟨(f.block pb h.lt hp).trans h.blk,h.txt.fr f ht,h.ne,h.pos,h.len⟩
theorem PrAt.keep(h:PrAt pb tb tf tc T p w)(f:ZF w w'):PrAt pb tb tf tc T p w':=h.fr f (fun h=>h) (fun h=>h)
theorem PrAt.set(h:PrAt pb tb tf tc T p w)(i:Nat)(v:Value)(q:Pr)(hq:(p.cells (.slice (some ⟨tb,tf,none⟩) T.length tc)).setIfInBounds i v=q.cells (.slice (some ⟨tb,tf,none⟩) T.length tc))(hp:q.pos≤T.length):
  PrAt pb tb tf tc T q (w.setCell ⟨pb,i,none⟩ v)∧Fr (Eq pb) w (w.setCell ⟨pb,i,none⟩ v):=by
 have f:Fr (Eq pb) w (w.setCell ⟨pb,i,none⟩ v):=(Fr.refl _ w).setR v
 exact⟨⟨by rw[←hq];exact Lib.heap_setCell_same (i:=i) h.blk v,h.txt.fr f (fun e=>h.ne e.symm),h.ne,hp,h.len⟩,f⟩
theorem PrAt.c(h:PrAt pb tb tf tc T p w)(i:Nat):w.cell? ⟨pb,i,none⟩=(p.cells (.slice (some ⟨tb,tf,none⟩) T.length tc))[i]?:=zC h.blk i
theorem PrAt.fz(h:PrAt pb tb tf tc T p w)(i:Nat):w.frozen? ⟨pb,i,none⟩=false:=zF h.blk i
theorem PrAt.c0(h:PrAt pb tb tf tc T p w):w.cell? ⟨pb,0,none⟩=some (.slice (some ⟨tb,tf,none⟩) T.length tc):=h.c 0
theorem PrAt.c1(h:PrAt pb tb tf tc T p w):w.cell? ⟨pb,1,none⟩=some (.int .i64 p.pos):=h.c 1
theorem PrAt.c2(h:PrAt pb tb tf tc T p w):w.cell? ⟨pb,2,none⟩=some (.int .i64 p.kind):=h.c 2
theorem PrAt.c3(h:PrAt pb tb tf tc T p w):w.cell? ⟨pb,3,none⟩=some (.int .u8 p.dm):=h.c 3
theorem PrAt.c4(h:PrAt pb tb tf tc T p w):w.cell? ⟨pb,4,none⟩=some (.int .i64 p.dims):=h.c 4
theorem PrAt.c5(h:PrAt pb tb tf tc T p w):w.cell? ⟨pb,5,none⟩=some (.int .i64 p.px):=h.c 5
theorem PrAt.c6(h:PrAt pb tb tf tc T p w):w.cell? ⟨pb,6,none⟩=some (.bool p.hz):=h.c 6
theorem PrAt.c7(h:PrAt pb tb tf tc T p w):w.cell? ⟨pb,7,none⟩=some (.bool p.hm):=h.c 7
theorem PrAt.c8(h:PrAt pb tb tf tc T p w):w.cell? ⟨pb,8,none⟩=some (.int .i64 p.pz):=h.c 8
theorem PrAt.c9(h:PrAt pb tb tf tc T p w):w.cell? ⟨pb,9,none⟩=some (.int .i64 p.pm):=h.c 9
theorem PrAt.c14(h:PrAt pb tb tf tc T p w):w.cell? ⟨pb,14,none⟩=some (.bool p.bb):=h.c 14
theorem PrAt.c15(h:PrAt pb tb tf tc T p w):w.cell? ⟨pb,15,none⟩=some (.bool p.si):=h.c 15
theorem PrAt.c16(h:PrAt pb tb tf tc T p w):w.cell? ⟨pb,16,none⟩=some (.bool p.ix):=h.c 16
theorem PrAt.c17(h:PrAt pb tb tf tc T p w):w.cell? ⟨pb,17,none⟩=some (.bool p.ex):=h.c 17
theorem PrAt.c18(h:PrAt pb tb tf tc T p w):w.cell? ⟨pb,18,none⟩=some (.bool p.em):=h.c 18
theorem PrAt.c19(h:PrAt pb tb tf tc T p w):w.cell? ⟨pb,19,none⟩=some p.bv:=h.c 19
theorem PrAt.c20(h:PrAt pb tb tf tc T p w):w.cell? ⟨pb,20,none⟩=some p.iv:=h.c 20
theorem PrAt.sc4(h:PrAt pb tb tf tc T p w)(d:Nat)(hd:d < 4):w.cell? ⟨pb,10+d,none⟩=some (.float .f64 (p.sc d)):=by
 rw[h.c]
 have:d=0∨d=1∨d=2∨d=3:=by omega
 rcases this with rfl|rfl|rfl|rfl<;>rfl
theorem PrAt.rf4(h:PrAt pb tb tf tc T p w)(d:Nat)(hd:d < 4):w.cell? ⟨pb,21+d,none⟩=some (.int .i64 (p.rf d)):=by
 rw[h.c]
 have:d=0∨d=1∨d=2∨d=3:=by omega
 rcases this with rfl|rfl|rfl|rfl<;>rfl
end
def NmPost (pb tb tf tc:Nat) (T:List UInt8) (p:Pr) (v:Value) (l':List UInt8) (w:World) (e:Ending) (w':World):Prop :=
 e=.returned (.tuple #[v,.nilIface])∧∃q:Nat,Hid (p.pos < q∧q≤T.length∧l'=T.drop q∧PrAt pb tb tf tc T { p with pos:=q } w'∧Fr (Eq pb) w w')
theorem unz_unzigzag(z:Nat):unz (z:Int)=Lib.unzigzag z:=by
 unfold unz Lib.unzigzag
 split<;>split<;>omega
theorem uvar238{pb tb tf tc:Nat}{T:List UInt8}{p:Pr}{w:World}(h:PrAt pb tb tf tc T p w){z:Nat}{l':List UInt8}(hu:UV (T.drop p.pos) z l'):
  Calls Tryz.prog 238 #[.pointer (some ⟨pb,0,none⟩)] w (NmPost pb tb tf tc T p (.int .u64 z) l' w):=by
 obtain⟨m,hm1,hm2,hdec,rfl⟩:=hu
 rw[List.length_drop] at hm2
 have hlt:p.pos < T.length:=by omega
 have C290:Hid (∀w1,TxAt tb tf T w1→Calls Tryz.prog 290 #[.slice (some ⟨tb,tf+p.pos,none⟩) (T.length - p.pos) (tc - p.pos)] w1 fun e w'=>e=.returned (.tuple #[.int .u64 z,.int .i64 m])∧w'=w1):=fun w1 ht=>by
  have:=Tryz.binary_Uvarint tb (tf+p.pos) (T.length - p.pos) (tc - p.pos) (T.drop p.pos) w1 (List.length_drop ..) (ht.drop p.pos)
  rw[hdec] at this
  exact this
 have HT:=zH h.txt
 have H:=zH h
 have c0:=h.c0
 have c1:=h.c1
 have fz:=h.fz 1
 have hl:=h.len
 have hle:(p.pos:Int)≤(T.length:Int):=by omega
 have hlc:(T.length:Int)≤(tc:Int):=by omega
 have hcap:(tc == p.pos)=false:=by simp;omega
 have e0:((m:Int) == 0)=false:=by simp;omega
 have e1:decide ((m:Int) < 0)=false:=by simp
 have hb1:(p.pos:Int)+(m:Int)≤100000000:=by omega
 clear h hdec
 go_enter Tryz.func238,Tryz.ntmps238
 go_upto_region 1 with fail
 go_quiet ((go_at_call 290;exact Calls.quiet_of_same (C290.out _ HT.out)))
 rename_i nq
 have HS:=zH (((H.out.keep ((Fr.refl _ w).drewN nq)).set 1 (.int .i64 ((p.pos+m:Nat):Int)) { p with pos:=p.pos+m } rfl (by show p.pos+m≤_;omega)))
 go_wp2_with fail
 go_ret2
 refine⟨rfl,p.pos+m,by omega,by omega,List.drop_drop,HS.out.1,?_⟩
 exact ((Fr.refl (Eq pb) w).drewN nq).trans HS.out.2
theorem svar239{pb tb tf tc:Nat}{T:List UInt8}{p:Pr}{w:World}(h:PrAt pb tb tf tc T p w){z:Nat}{l':List UInt8}(hu:UV (T.drop p.pos) z l'):
  Calls Tryz.prog 239 #[.pointer (some ⟨pb,0,none⟩)] w (NmPost pb tb tf tc T p (.int .i64 (unz z)) l' w):=by
 obtain⟨m,hm1,hm2,hdec,rfl⟩:=hu
 rw[List.length_drop] at hm2
 have hlt:p.pos < T.length:=by omega
 have C290:Hid (∀w1,TxAt tb tf T w1→Calls Tryz.prog 291 #[.slice (some ⟨tb,tf+p.pos,none⟩) (T.length - p.pos) (tc - p.pos)] w1 fun e w'=>e=.returned (.tuple #[.int .i64 (unz z),.int .i64 m])∧w'=w1):=fun w1 ht=>by
  have:=Tryz.binary_Varint tb (tf+p.pos) (T.length - p.pos) (tc - p.pos) (T.drop p.pos) w1 (List.length_drop ..) (ht.drop p.pos)
  unfold Lib.varintDec at this
  rw[hdec,←unz_unzigzag] at this
  exact this
 have HT:=zH h.txt
 have H:=zH h
 have c0:=h.c0
 have c1:=h.c1
 have fz:=h.fz 1
 have hl:=h.len
 have hle:(p.pos:Int)≤(T.length:Int):=by omega
 have hlc:(T.length:Int)≤(tc:Int):=by omega
 have hcap:(tc == p.pos)=false:=by simp;omega
 have e0:((m:Int) == 0)=false:=by simp;omega
 have e1:decide ((m:Int) < 0)=false:=by simp
 have hb1:(p.pos:Int)+(m:Int)≤100000000:=by omega
 clear h hdec
 go_enter Tryz.func239,Tryz.ntmps239
 go_upto_region 1 with fail
 go_quiet ((go_at_call 291;exact Calls.quiet_of_same (C290.out _ HT.out)))
 rename_i nq
 have HS:=zH (((H.out.keep ((Fr.refl _ w).drewN nq)).set 1 (.int .i64 ((p.pos+m:Nat):Int)) { p with pos:=p.pos+m } rfl (by show p.pos+m≤_;omega)))
 go_wp2_with fail
 go_ret2
 refine⟨rfl,p.pos+m,by omega,by omega,List.drop_drop,HS.out.1,?_⟩
 exact ((Fr.refl (Eq pb) w).drewN nq).trans HS.out.2
end Go.Proofs.YtnjjgbcmjnfijaaGreatDoor
