/- The package's writer of tiny bytes: its state, and how it writes numbers. No condition. -/
import Derived.Test.YtnjjgbcmjnfijaaGreatDoorWc
import Derived.Deep.RegionLaw
import Derived.Laws.IdiomCopy
namespace Go.Proofs.YtnjjgbcmjnfijaaGreatDoor
set_option maxRecDepth 100000
set_option maxHeartbeats 4000000
open Go.RowKit
structure Wt where
 hv:Value
 cv:Value
 kind:Nat
 dm:Nat
 dims:Nat
 px:Int
 hz:Bool
 hm:Bool
 pz:Int
 pm:Int
 sc:Nat→Nat
 ex:Bool
 em:Bool
 rf:Nat→Int
 ok:Bool
 mn:Nat→Int
 mx:Nat→Int
def Wt.cells (q:Wt):Array Value:=#[q.hv,.slice none 0 0,q.cv,.int .i64 q.kind,.int .u8 q.dm,.int .i64 q.dims,.int .i64 q.px,.bool q.hz,.bool q.hm,.int .i64 q.pz,.int .i64 q.pm,.float .f64 (q.sc 0),.float .f64 (q.sc 1),.float .f64 (q.sc 2),.float .f64 (q.sc 3),
 .bool false,.bool false,.bool false,.bool q.ex,.bool q.em,.int .i64 (q.rf 0),.int .i64 (q.rf 1),.int .i64 (q.rf 2),.int .i64 (q.rf 3),.bool q.ok,.int .i64 (q.mn 0),.int .i64 (q.mn 1),.int .i64 (q.mn 2),.int .i64 (q.mn 3),.int .i64 (q.mx 0),.int .i64 (q.mx 1),.int .i64 (q.mx 2),.int .i64 (q.mx 3),.slice none 0 0,.bool true]
theorem info5:(Tryz.prog.info? 5).map (fun i=>(i.zero,i.size,i.bytes))=some (some (.int .u8 0),1,1):=by kernel_rfl
structure WtAt (B wb:Nat) (q:Wt) (H C:List UInt8) (w:World):Prop where
 blk:w.heap[wb]?=some (.cells q.cells 226 (0,0))
 hd:w.ownsRow B 5 1 q.hv H.length (Lib.byteCells H)
 ct:w.ownsRow B 5 1 q.cv C.length (Lib.byteCells C)
 n1:q.hv.ownBlock≠some wb
 n2:q.cv.ownBlock≠some wb
 n3:q.hv.ownBlock=none∨q.hv.ownBlock≠q.cv.ownBlock
 le:B≤wb
section
variable {B wb:Nat}{q:Wt}{H C:List UInt8}{w w':World}
theorem WtAt.lt(h:WtAt B wb q H C w):wb < w.heap.size:=(zG h.blk).1
theorem WtAt.c(h:WtAt B wb q H C w)(i:Nat):w.cell? ⟨wb,i,none⟩=q.cells[i]?:=zC h.blk i
theorem WtAt.fz(h:WtAt B wb q H C w)(i:Nat):w.frozen? ⟨wb,i,none⟩=false:=zF h.blk i
theorem WtAt.fr{R:Nat→Prop}(h:WtAt B wb q H C w)(f:Fr R w w')(hw:¬R wb)(hh:∀b,q.hv.ownBlock=some b→¬R b)(hc:∀b,q.cv.ownBlock=some b→¬R b):WtAt B wb q H C w':=by
 have key:∀{v:Value}{n:Nat}{xs:List Value},w.ownsRow B 5 1 v n xs→(∀b,v.ownBlock=some b→¬R b)→w'.ownsRow B 5 1 v n xs:=fun {v n xs} ho hr=>by
  refine⟨ho.1,ho.2.imp id ?_⟩
  rintro ⟨g,cap,cur,h1,h2,h3,h4⟩
  exact⟨g,cap,cur,h1,h2,by rw[f.block g (zG h3).1 (hr g (by rw[h1];rfl))];exact h3,h4⟩
 exact⟨(f.block wb h.lt hw).trans h.blk,key h.hd hh,key h.ct hc,h.n1,h.n2,h.n3,h.le⟩
theorem WtAt.keep(h:WtAt B wb q H C w)(f:ZF w w'):WtAt B wb q H C w':=h.fr f (fun h=>h) (fun _ _ h=>h) (fun _ _ h=>h)
theorem WtAt.set(h:WtAt B wb q H C w)(i:Nat)(v:Value)(q':Wt)(hq:q.cells.setIfInBounds i v=q'.cells)(h1:q'.hv=q.hv)(h2:q'.cv=q.cv):
  WtAt B wb q' H C (w.setCell ⟨wb,i,none⟩ v)∧Fr (fun b=>B≤b) w (w.setCell ⟨wb,i,none⟩ v):=by
 have f:Fr (Eq wb) w (w.setCell ⟨wb,i,none⟩ v):=(Fr.refl _ w).setR v
 have key:∀{v0:Value}{n:Nat}{xs:List Value},v0.ownBlock≠some wb→w.ownsRow B 5 1 v0 n xs→(w.setCell ⟨wb,i,none⟩ v).ownsRow B 5 1 v0 n xs:=fun {v0 n xs} hn ho=>by
  refine⟨ho.1,ho.2.imp id ?_⟩
  rintro ⟨g,cap,cur,e1,e2,e3,e4⟩
  exact⟨g,cap,cur,e1,e2,by rw[f.block g (zG e3).1 (fun e=>hn (by rw[e1,e];rfl))];exact e3,e4⟩
 exact⟨⟨by rw[←hq];exact Lib.heap_setCell_same (i:=i) h.blk v,by rw[h1];exact key h.n1 h.hd,by rw[h2];exact key h.n2 h.ct,by rw[h1];exact h.n1,by rw[h2];exact h.n2,by rw[h1,h2];exact h.n3,h.le⟩,f.weak (fun b e=>by rw[←e];exact h.le)⟩
theorem ownsRow_but{R:Nat→Prop}{t:TypeId}{s:Nat}{v:Value}{n:Nat}{xs:List Value}(ho:w.ownsRow B t s v n xs)(f:Fr R w w')(hr:∀b,v.ownBlock=some b→¬R b):w'.ownsRow B t s v n xs:=by
 refine⟨ho.1,ho.2.imp id ?_⟩
 rintro ⟨g,cap,cur,h1,h2,h3,h4⟩
 exact⟨g,cap,cur,h1,h2,by rw[f.block g (zG h3).1 (hr g (by rw[h1];rfl))];exact h3,h4⟩
theorem WtAt.app(h:WtAt B wb q H C w){w7:World}{g m cap:Nat}{l:List UInt8}(own:w7.ownsRow B 5 1 (.slice (some ⟨g,0,none⟩) (C.length+m) cap) (C.length+m) (Lib.byteCells C++Lib.byteCells l))(gr:w.grownBy w7 q.cv.ownBlock)(hat:q.cv.ownBlock=some g∨g=w.heap.size)(hm:l.length=m):
  w7.heap[wb]?=some (.cells q.cells 226 (0,0))∧WtAt B wb { q with cv:=.slice (some ⟨g,0,none⟩) (C.length+m) cap } H (C++l) (w7.setCell ⟨wb,2,none⟩ (.slice (some ⟨g,0,none⟩) (C.length+m) cap))∧Fr (fun b=>some b=q.cv.ownBlock∨b=wb) w (w7.setCell ⟨wb,2,none⟩ (.slice (some ⟨g,0,none⟩) (C.length+m) cap)):=by
 have hlt:=h.lt
 have k7:w7.heap[wb]?=some (.cells q.cells 226 (0,0)):=(gr.block wb hlt (fun e=>h.n2 e.symm)).trans h.blk
 have f7:Fr (fun b=>some b=q.cv.ownBlock∨b=wb) w w7:=(Fr.refl _ w).grown gr (fun k hk=>.inr (.inl hk.symm))
 have f8:Fr (fun b=>some b=q.cv.ownBlock∨b=wb) w (w7.setCell ⟨wb,2,none⟩ (.slice (some ⟨g,0,none⟩) (C.length+m) cap)):=f7.setR _ (.inr rfl)
 have fs:Fr (Eq wb) w7 (w7.setCell ⟨wb,2,none⟩ (.slice (some ⟨g,0,none⟩) (C.length+m) cap)):=(Fr.refl _ w7).setR _
 have hgw:g≠wb:=by
  rcases hat with e|e
  ·intro e2;exact h.n2 (by rw[e,e2])
  ·omega
 have hh:∀b,q.hv.ownBlock=some b→some b≠q.cv.ownBlock∧b≠wb∧b < w.heap.size:=fun b hb=>by
  refine⟨fun e=>?_,fun e=>h.n1 (by rw[hb,e]),(h.hd.lt b hb).2⟩
  rcases h.n3 with h3|h3
  ·rw[hb] at h3;simp at h3
  ·exact h3 (hb.trans e)
 refine⟨k7,⟨?_,?_,?_,h.n1,?_,?_,h.le⟩,f8⟩
 ·exact Lib.heap_setCell_same (i:=2) k7 _
 ·exact ownsRow_but h.hd f8 (fun b hb e=>e.elim (hh b hb).1 (hh b hb).2.1)
 ·have e:Lib.byteCells C++Lib.byteCells l=Lib.byteCells (C++l):=by simp[Lib.byteCells]
  rw[e] at own
  have:=ownsRow_but own fs (fun b hb e=>hgw (by have hb:some g=some b:=hb;injection hb with hb;omega))
  rw[List.length_append,hm]
  exact this
 ·intro e;injection e with e;exact hgw e
 ·by_cases hn:q.hv.ownBlock=none
  ·exact .inl hn
  ·right
   intro e
   have:=hh g e
   rcases hat with e2|e2
   ·exact this.1 e2.symm
   ·omega
end
theorem Fr.setCells{R:Nat→Prop}{g:Nat}(hg:R g):∀(vs:List Value) (o:Nat) (w:World),Fr R w (w.setCells g o vs)
 | [],_,w=>Fr.refl R w
 | v :: vs,o,w=>((Fr.refl R w).setR v hg).trans (Fr.setCells hg vs (o+1) (w.setCell ⟨g,o,none⟩ v))
theorem byte_one(l:List UInt8):∀u∈Lib.byteCells l,u.oneCell'=true:=fun u hu=>by
 obtain⟨c,_,rfl⟩:=List.mem_map.1 hu
 rfl
def Rw (wb:Nat) (q:Wt):Nat→Prop:=fun b=>b=wb∨some b=q.cv.ownBlock∨some b=q.hv.ownBlock
structure Ch (wb:Nat) (q q':Wt) (w w':World):Prop where
 fr:Fr (Rw wb q) w w'
 nx:∀b,Rw wb q' b→Rw wb q b∨w.heap.size≤b
theorem Ch.of{wb:Nat}{q:Wt}{w w':World}(f:ZF w w'):Ch wb q q w w':=⟨f.weak (fun _ h=>h.elim),fun _ h=>.inl h⟩
theorem Ch.trans{wb:Nat}{q q1 q2:Wt}{w w1 w2:World}(h:Ch wb q q1 w w1)(k:Ch wb q1 q2 w1 w2):Ch wb q q2 w w2 :=
 ⟨h.fr.transNew k.fr (fun b e=>(h.nx b e).symm),fun b e=>(k.nx b e).elim (h.nx b) (fun e=>.inr (Nat.le_trans h.fr.size e))⟩
theorem WtAt.own_ge{B wb:Nat}{q:Wt}{H C:List UInt8}{w:World}(h:WtAt B wb q H C w):∀b,Rw wb q b→B≤b∧b < w.heap.size:=fun b e=>by
 rcases e with e|e|e
 ·rw[e];exact⟨h.le,h.lt⟩
 ·exact h.ct.lt b e.symm
 ·exact h.hd.lt b e.symm
theorem WtAt.frB{B wb:Nat}{q q':Wt}{H C:List UInt8}{w w':World}(h:WtAt B wb q H C w)(c:Ch wb q q' w w'):Fr (fun b=>B≤b) w w':=c.fr.weak (fun b e=>(h.own_ge b e).1)
def WrPost (B wb:Nat) (q:Wt) (H C:List UInt8) (w:World) (e:Ending) (w':World):Prop :=
 e=.returned (.tuple #[])∧∃cv,Hid (WtAt B wb { q with cv:=cv } H C w'∧Ch wb q { q with cv:=cv } w w')
def zb:Array Value:=#[.int .u8 0,.int .u8 0,.int .u8 0,.int .u8 0,.int .u8 0,.int .u8 0,.int .u8 0,.int .u8 0,.int .u8 0,.int .u8 0]
theorem put_post{gb:Nat}{w:World}(hb:w.heap[gb]?=some (.cells zb 357 (0,0)))(l:List UInt8)(hl:l.length≤10):
  (∀j,j < l.length→(w.cell? ⟨gb,0+j,none⟩).isSome=true∧w.frozen? ⟨gb,0+j,none⟩=false)∧Fr (Eq gb) w (w.setCells gb 0 (Lib.byteCells l))∧∀j u,(Lib.byteCells l)[j]?=some u→(w.setCells gb 0 (Lib.byteCells l)).cell? ((⟨gb,0,none⟩:Addr).add j)=some u:=by
 have h1:∀j,j < l.length→(w.cell? ⟨gb,0+j,none⟩).isSome=true∧w.frozen? ⟨gb,0+j,none⟩=false:=fun j hj=>by
  refine⟨?_,zF hb _⟩
  rw[zC hb,Nat.zero_add]
  have:j < zb.size:=by show j < 10;omega
  simp[this]
 refine⟨h1,Fr.setCells rfl _ _ _,fun j u hu=>?_⟩
 have hj:j < (Lib.byteCells l).length:=(zL hu).1
 have e:(⟨gb,0,none⟩:Addr).add j=⟨gb,0+j,none⟩:=by cases j<;>simp[Addr.add]
 rw[e,World.cell?_setCells_in gb _ 0 w (fun j hj=>(h1 j (by simpa [Lib.byteCells] using hj)).1) j hj]
 rw[←hu]
 simp
theorem uv281{B wb:Nat}{q:Wt}{H C:List UInt8}{w:World}(h:WtAt B wb q H C w)(x:Nat)(hx:x < 18446744073709551616)(hC:(C++Lib.uvarint x).length≤10000000000000):
  Calls Tryz.prog 281 #[.pointer (some ⟨wb,0,none⟩),.int .u64 x] w (WrPost B wb q H (C++Lib.uvarint x) w):=by
 obtain⟨i0,hi0,hz0,hz1,hz2⟩:=info_parts info5
 obtain⟨l,hl⟩:∃l,l=Lib.uvarint x:=⟨_,rfl⟩
 have hl10:l.length≤10:=by rw[hl];exact Lib.uvarint_length64 hx
 have hl0:0 < l.length:=by rw[hl];exact Lib.uvarint_pos x
 obtain⟨w0,hw0⟩:∃w0,w0=w.alloc (.cells zb 357):=⟨_,rfl⟩
 have f0:ZF w w0:=by rw[hw0];exact (Fr.refl _ w).alloc _
 have b0:w0.heap[w.heap.size]?=some (.cells zb 357 (0,0)):=by rw[hw0];exact zN w _
 obtain⟨hp1,hp2,hp3⟩:=put_post b0 l hl10
 have HW0:=zH hw0
 have CP:Hid (Calls Tryz.prog 287 #[.slice (some ⟨w.heap.size,0,none⟩) 10 10,.int .u64 x] w0 fun e w'=>e=.returned (.int .i64 l.length)∧w0.setCells w.heap.size 0 (Lib.byteCells l)=w'):=by
  rw[hl] at hl10 hp1 ⊢
  exact (Tryz.binary_PutUvarint w.heap.size 0 10 10 x hx w0 hl10 hp1).mono (fun _ _ h=>⟨h.1,h.2.symm⟩)
 obtain⟨N,hN⟩:∃N,N=l.length:=⟨_,rfl⟩
 rw[←hN] at CP hl10 hl0
 obtain⟨w5,hw5⟩:∃w5,w5=w0.setCells w.heap.size 0 (Lib.byteCells l):=⟨_,rfl⟩
 rw[←hw5] at CP hp2 hp3
 have F5:Hid (Fr (fun b=>b=w.heap.size) w w5):=(f0.weak (fun _ h=>h.elim)).trans (hp2.weak (fun b e=>e.symm))
 have hlt:=h.lt
 have H5:Hid (WtAt B wb q H C w5):=(h.keep f0).fr hp2 (by omega) (fun b hb e=>by have:=(h.hd.lt b hb).2;omega) (fun b hb e=>by have:=(h.ct.lt b hb).2;omega)
 have H6:Hid (WtAt B wb q H C w5.drew):=H5.out.keep ((Fr.refl _ w5).drew)
 obtain⟨a,c,hcv⟩:=slice_shape h.ct
 have HCV:=zH hcv
 have c2:w5.cell? ⟨wb,2,none⟩=some (.slice a C.length c):=by rw[H5.out.c];show some q.cv=_;rw[hcv]
 have cf:∀k,w5.frozen? ⟨wb,k,none⟩=false:=fun k=>H5.out.fz k
 have HN:=zH hN
 have HL:=zH hl
 have HNEW:Hid (∀j u,(Lib.byteCells l)[j]?=some u→w5.drew.cell? ((⟨w.heap.size,0,none⟩:Addr).add j)=some u):=hp3
 have OWN:Hid (w5.drew.ownsRow B 5 1 (.slice a C.length c) C.length (Lib.byteCells C)):=by have:=H5.out.ct;rw[hcv] at this;exact this
 rw[List.length_append,←hl,←hN] at hC
 obtain⟨M,hM⟩:∃M,M=C.length:=⟨_,rfl⟩
 have HM:=zH hM
 rw[←hM] at c2 OWN hC
 have K3:Hid (M+N≤maxLen):=by show _≤_;unfold maxLen;omega
 have K4:Hid ((M+N)*1≤140737488355328):=by show _≤_;omega
 have K5:Hid (B≤w5.drew.heap.size):=by have h1:=h.le;have h2:=F5.out.size;show B≤w5.heap.size;omega
 have KL:Hid ((Lib.byteCells l).length=N*1):=by show _=_;rw[hN];simp[Lib.byteCells]
 have hN10:(N:Int)≤10:=by omega
 have hN0:(0:Int)≤(N:Int):=by omega
 have BL:Hid (B≤w.heap.size):=by have:=h.le;show _≤_;omega
 clear h hl b0 hp1 hp2 hp3 hw0 hw5 hcv hN hM f0
 go_enter Tryz.func281,Tryz.ntmps281
 go_upto_region 1 with fail
 unfold zb at HW0
 rw[←HW0.out]
 go_upto_region 2 with (go_at_call 287;refine CP.out.mono ?_;rintro e w' ⟨rfl,rfl⟩)
 go_region_law (refine step_append_lies _ (by rfl) _ _ _ (by rfl) B 5 i0 (.int .u8 0) 1 1 Tryz.underlying22 hi0 hz0 hz1 hz2 rfl (by decide) _ M (Lib.byteCells C) (by rfl) OWN.out ⟨_,0,none⟩ N 10 (Lib.byteCells l) (by rfl) KL.out HNEW.out (byte_one l) hl0 K3.out K4.out K5.out _ rfl ?_;intro g6 cap6 w7 hown hgrow hat hlt7;have HH:=zH (H6.out.app (l:=l) (g:=g6) (m:=N) (cap:=cap6) (by rw[←HM.out];exact hown) (by rw[HCV.out,←HM.out];exact hgrow) (by rw[HCV.out,←HM.out];exact hat) HN.out.symm);have HAT:=zH hat;clear hown hgrow hat;have d2:w7.cell? ⟨wb,2,none⟩=some (.slice a M c):=(by rw[zC HH.out.1,HM.out];show some q.cv=_;rw[HCV.out]);have df:∀k,w7.frozen? ⟨wb,k,none⟩=false:=fun k=>zF HH.out.1 k)
 all_goals
  have HP:Hid (WtAt B wb { q with cv:=.slice (some ⟨g6,0,none⟩) (M+N) cap6 } H (C++Lib.uvarint x) (w7.setCell ⟨wb,2,none⟩ (.slice (some ⟨g6,0,none⟩) (M+N) cap6))∧Ch wb q { q with cv:=.slice (some ⟨g6,0,none⟩) (M+N) cap6 } w (w7.setCell ⟨wb,2,none⟩ (.slice (some ⟨g6,0,none⟩) (M+N) cap6))):=by
   rw[←HL.out,HM.out]
   refine⟨HH.out.2.1,⟨((Fr.refl _ w).transNew F5.out.drew (fun b e=>.inl (by omega))).trans (HH.out.2.2.weak (fun b e=>?_)),fun b e=>?_⟩⟩
   ·rcases e with e|e
    ·exact .inr (.inl e)
    ·exact .inl e
   ·rcases e with e|e|e
    ·exact .inl (.inl e)
    ·have e:some b=some g6:=e
     injection e with e
     rcases HAT.out with e2|e2
     ·exact .inl (.inr (.inl (by rw[e,HCV.out,←HM.out];exact e2.symm)))
     ·have h1:=F5.out.size
      have h2:g6=w5.heap.size:=e2
      exact .inr (by omega)
    ·exact .inl (.inr (.inr e))
  go_end0
  exact⟨rfl,_,HP.out⟩
open Go.RowKit
theorem WtAt.appH{B wb:Nat}{q:Wt}{H C:List UInt8}{w:World}(h:WtAt B wb q H C w){w7:World}{g m cap:Nat}{l:List UInt8}(own:w7.ownsRow B 5 1 (.slice (some ⟨g,0,none⟩) (H.length+m) cap) (H.length+m) (Lib.byteCells H++Lib.byteCells l))(gr:w.grownBy w7 q.hv.ownBlock)(hat:q.hv.ownBlock=some g∨g=w.heap.size)(hm:l.length=m):
  w7.heap[wb]?=some (.cells q.cells 226 (0,0))∧WtAt B wb { q with hv:=.slice (some ⟨g,0,none⟩) (H.length+m) cap } (H++l) C (w7.setCell ⟨wb,0,none⟩ (.slice (some ⟨g,0,none⟩) (H.length+m) cap))∧Fr (fun b=>some b=q.hv.ownBlock∨b=wb) w (w7.setCell ⟨wb,0,none⟩ (.slice (some ⟨g,0,none⟩) (H.length+m) cap)):=by
 have hlt:=h.lt
 have k7:w7.heap[wb]?=some (.cells q.cells 226 (0,0)):=(gr.block wb hlt (fun e=>h.n1 e.symm)).trans h.blk
 have f7:Fr (fun b=>some b=q.hv.ownBlock∨b=wb) w w7:=(Fr.refl _ w).grown gr (fun k hk=>.inr (.inl hk.symm))
 have f8:Fr (fun b=>some b=q.hv.ownBlock∨b=wb) w (w7.setCell ⟨wb,0,none⟩ (.slice (some ⟨g,0,none⟩) (H.length+m) cap)):=f7.setR _ (.inr rfl)
 have fs:Fr (Eq wb) w7 (w7.setCell ⟨wb,0,none⟩ (.slice (some ⟨g,0,none⟩) (H.length+m) cap)):=(Fr.refl _ w7).setR _
 have hgw:g≠wb:=by
  rcases hat with e|e
  ·intro e2;exact h.n1 (by rw[e,e2])
  ·omega
 have hh:∀b,q.cv.ownBlock=some b→some b≠q.hv.ownBlock∧b≠wb∧b < w.heap.size:=fun b hb=>by
  refine⟨fun e=>?_,fun e=>h.n2 (by rw[hb,e]),(h.ct.lt b hb).2⟩
  rcases h.n3 with h3|h3
  ·rw[h3] at e;simp at e
  ·exact h3 (e.symm.trans hb.symm)
 refine⟨k7,⟨?_,?_,?_,?_,h.n2,?_,h.le⟩,f8⟩
 ·exact Lib.heap_setCell_same (i:=0) k7 _
 ·have e:Lib.byteCells H++Lib.byteCells l=Lib.byteCells (H++l):=by simp[Lib.byteCells]
  rw[e] at own
  have:=ownsRow_but own fs (fun b hb e=>hgw (by have hb:some g=some b:=hb;injection hb with hb;omega))
  rw[List.length_append,hm]
  exact this
 ·exact ownsRow_but h.ct f8 (fun b hb e=>e.elim (hh b hb).1 (hh b hb).2.1)
 ·intro e;injection e with e;exact hgw e
 ·right
  intro e
  have:=hh g e.symm
  rcases hat with e2|e2
  ·exact this.1 e2.symm
  ·omega
def WhPost (B wb:Nat) (q:Wt) (H C:List UInt8) (w:World) (e:Ending) (w':World):Prop :=
 e=.returned (.tuple #[])∧∃hv,Hid (WtAt B wb { q with hv:=hv } H C w'∧Ch wb q { q with hv:=hv } w w')
theorem hb326{B wb:Nat}{q:Wt}{H C:List UInt8}{w:World}(h:WtAt B wb q H C w)(x:Nat)(hx:x < 256)(hH:H.length≤1000000):
  Calls Tryz.prog 326 #[.pointer (some ⟨wb,0,none⟩),.int .u8 x] w (WhPost B wb q (H++[UInt8.ofNat x]) C w):=by
 obtain⟨i0,hi0,hz0,hz1,hz2⟩:=info_parts info5
 have hlt:=h.lt
 have hle:=h.le
 obtain⟨a,c,hcv⟩:=slice_shape h.hd
 obtain⟨M,hM⟩:∃M,M=H.length:=⟨_,rfl⟩
 have c0:w.cell? ⟨wb,0,none⟩=some (.slice a M c):=by rw[h.c];show some q.hv=_;rw[hcv,hM]
 have cf:∀k,w.frozen? ⟨wb,k,none⟩=false:=fun k=>h.fz k
 have H5:=zH (h.keep ((Fr.refl _ w).alloc (.cells #[.int .u8 x] 5)))
 have HB:=zH h
 have hb8:Lib.byteCells [UInt8.ofNat x]=[.int .u8 (x:Int)]:=by
  simp only[Lib.byteCells,List.map_cons,List.map_nil]
  rw[UInt8.toNat_ofNat',Nat.mod_eq_of_lt (by omega)]
 have OWN:Hid ((w.alloc (.cells #[.int .u8 x] 5)).ownsRow B 5 1 (.slice a M c) M (Lib.byteCells H)):=by have:=H5.out.hd;rw[hcv,←hM] at this;exact this
 rw[←hM] at hH
 have K3:Hid (M+1≤maxLen):=by show _≤_;unfold maxLen;omega
 have K4:Hid ((M+1)*1≤140737488355328):=by show _≤_;omega
 have K5:Hid (B≤(w.alloc (.cells #[.int .u8 x] 5)).heap.size):=by show _≤_;rw[sz1];omega
 have HCV:=zH hcv
 have HM:=zH hM
 have HB8:=zH hb8
 clear h hcv hM hb8
 go_enter Tryz.func326,Tryz.ntmps326
 go_wp2_with (at_builtin;refine wpList_append_own_at _ rfl _ _ 22 rfl B 5 i0 (.int .u8 0) 1 1 Tryz.underlying22 hi0 hz0 hz1 hz2 rfl (by decide) _ M (Lib.byteCells H) rfl OWN.out ⟨_,0,none⟩ 1 1 [.int .u8 x] rfl rfl (cell_one_new _ _ _) (one_one _ rfl) K3.out K4.out K5.out ?_;intro v' w7 hown1 hgrow1 _ hat;obtain⟨g6,cap6,rfl,_,_⟩:=own_capE hown1 (Nat.succ_pos _);have HH:=zH (H5.out.appH (l:=[UInt8.ofNat x]) (g:=g6) (m:=1) (cap:=cap6) (by rw[HB8.out,←HM.out];exact hown1) (by rw[HCV.out,←HM.out];exact hgrow1) (by rw[HCV.out,←HM.out];exact hat.imp (fun h=>h.symm) (fun h=>by injection h)) rfl);have HAT:=zH hat;clear hown1 hgrow1 hat;have d0:w7.cell? ⟨wb,0,none⟩=some (.slice a M c):=(by rw[zC HH.out.1,HM.out];show some q.hv=_;rw[HCV.out]);have df:∀k,w7.frozen? ⟨wb,k,none⟩=false:=fun k=>zF HH.out.1 k)
 have HP:Hid (WtAt B wb { q with hv:=.slice (some ⟨g6,0,none⟩) (M+1) cap6 } (H++[UInt8.ofNat x]) C (w7.setCell ⟨wb,0,none⟩ (.slice (some ⟨g6,0,none⟩) (M+1) cap6))∧Ch wb q { q with hv:=.slice (some ⟨g6,0,none⟩) (M+1) cap6 } w (w7.setCell ⟨wb,0,none⟩ (.slice (some ⟨g6,0,none⟩) (M+1) cap6))):=by
  rw[HM.out]
  refine⟨HH.out.2.1,⟨((Fr.refl _ w).alloc _).trans (HH.out.2.2.weak (fun b e=>?_)),fun b e=>?_⟩⟩
  ·rcases e with e|e
   ·exact .inr (.inr e)
   ·exact .inl e
  ·rcases e with e|e|e
   ·exact .inl (.inl e)
   ·exact .inl (.inr (.inl e))
   ·have e:some b=some g6:=e
    injection e with e
    rcases HAT.out with e2|e2
    ·exact .inl (.inr (.inr (by rw[e,HCV.out,←HM.out];exact e2)))
    ·have h2:some g6=some ((w.alloc (.cells #[.int .u8 x] 5)).heap.size):=e2
     injection h2 with h2
     rw[sz1] at h2
     exact .inr (by omega)
 go_end0
 exact⟨rfl,_,HP.out⟩
theorem zz327(p:Nat)(hp:p≤7)(w:World):Calls Tryz.prog 327 #[.int .i64 p] w fun e w'=>e=.returned (.int .u64 (2*p:Nat))∧w=w':=by
 have hp8:p=0∨p=1∨p=2∨p=3∨p=4∨p=5∨p=6∨p=7:=by omega
 rcases hp8 with rfl|rfl|rfl|rfl|rfl|rfl|rfl|rfl
 all_goals
  go_enter Tryz.func327,Tryz.ntmps327
  go_wp2_with fail
  go_ret
  exact⟨rfl,rfl⟩
theorem tp_bits:∀(p:Fin 8) (k:Fin 16),IntKind.u64.wrap (((2*p.val:Nat):Int)*16)=((32*p.val:Nat):Int)∧IntKind.u8.wrap ((32*p.val:Nat):Int)=((32*p.val:Nat):Int)∧IntKind.u8.wrap (k.val:Int)=(k.val:Int)∧bits .or .u8 ((32*p.val:Nat):Int) (k.val:Int)=((2*p.val*16+k.val:Nat):Int):=by decide
def WkPost (B wb:Nat) (q:Wt) (H C:List UInt8) (w:World) (e:Ending) (w':World):Prop :=
 e=.returned (.tuple #[])∧∃hv,Hid (WtAt B wb { q with hv:=hv } H C w'∧Ch wb q { q with hv:=hv } w w')
theorem tp274{B wb:Nat}{q:Wt}{H C:List UInt8}{w:World}(h:WtAt B wb q H C w){p:Nat}(hp:p≤7)(hpx:q.px=(p:Int))(k:Nat)(hk:k < 16)(hH:H.length≤1000000):
  Calls Tryz.prog 274 #[.pointer (some ⟨wb,0,none⟩),.int .i64 k] w (WkPost B wb { q with kind:=k } (H++[UInt8.ofNat (2*p*16+k)]) C w):=by
 obtain⟨e1,e2,e3,e4⟩:=tp_bits ⟨p,by omega⟩ ⟨k,hk⟩
 obtain⟨X,hX⟩:∃X,X=2*p*16+k:=⟨_,rfl⟩
 obtain⟨Y,hY⟩:∃Y,Y=32*p:=⟨_,rfl⟩
 obtain⟨Z,hZ⟩:∃Z,Z=2*p:=⟨_,rfl⟩
 have hX8:X < 256:=by omega
 have C327:Hid (∀w,Calls Tryz.prog 327 #[.int .i64 p] w fun e w'=>e=.returned (.int .u64 Z)∧w=w'):=by rw[hZ];exact zz327 p hp
 have E1:IntKind.u64.wrap ((Z:Int)*16)=(Y:Int):=by rw[hZ,hY];exact e1
 have E2:IntKind.u8.wrap (Y:Int)=(Y:Int):=by rw[hY];exact e2
 have E3:IntKind.u8.wrap (k:Int)=(k:Int):=e3
 have E4:bits .or .u8 (Y:Int) (k:Int)=(X:Int):=by rw[hX,hY];exact e4
 rw[←hX]
 clear hX hY hZ e1 e2 e3 e4
 have hs:=h.set 3 (.int .i64 k) { q with kind:=k } rfl rfl rfl
 have HS:=zH hs
 have c3:=h.c 3
 have cf:∀k,w.frozen? ⟨wb,k,none⟩=false:=fun k=>h.fz k
 obtain⟨v3,hv3⟩:∃v,w.cell? ⟨wb,3,none⟩=some v:=⟨_,c3⟩
 obtain⟨w1,hw1⟩:∃w1,w1=w.setCell ⟨wb,3,none⟩ (.int .i64 k):=⟨_,rfl⟩
 rw[←hw1] at hs
 have HW1:=zH hw1
 have H1:=zH hs
 have d3:w1.cell? ⟨wb,3,none⟩=some (.int .i64 k):=hs.1.c 3
 have d6:w1.cell? ⟨wb,6,none⟩=some (.int .i64 p):=by rw[hs.1.c];show some (Value.int .i64 q.px)=_;rw[hpx]
 have HF1:Hid (Fr (Rw wb { q with kind:=k }) w w1):=by show Fr _ _ _;rw[hw1];exact (Fr.refl _ w).setR _ (.inl rfl)
 have C326:Hid (∀w2,WtAt B wb { q with kind:=k } H C w2→Calls Tryz.prog 326 #[.pointer (some ⟨wb,0,none⟩),.int .u8 X] w2 (WhPost B wb { q with kind:=k } (H++[UInt8.ofNat X]) C w2)):=fun w2 h2=>hb326 h2 X hX8 hH
 clear h hs hpx hw1 c3 hX8 hp hk
 go_enter Tryz.func274,Tryz.ntmps274
 go_upto_region 1 with fail
 rw[←HW1.out]
 go_region_with (first|(go_at_call 327;refine (C327.out _).mono ?_;rintro e w' ⟨rfl,rfl⟩)|(go_at_call 326;(with_reducible refine (C326.out _ (H1.out.1.keep ((Fr.refl _ w1).drew))).mono ?_);rintro e w' ⟨rfl,hv,hp⟩))
 all_goals
  go_end0
  exact⟨rfl,hv,hp.out.1,(Ch.trans ⟨(HF1.out).drew,fun b e=>.inl e⟩ hp.out.2:Ch wb { q with kind:=k } _ _ _)⟩
theorem md328{B wb:Nat}{q:Wt}{H C:List UInt8}{w:World}(h:WtAt B wb q H C w)(x:Nat)(hx:x=0∨x=8)(hH:H.length≤1000000):
  Calls Tryz.prog 328 #[.pointer (some ⟨wb,0,none⟩),.int .i64 x] w (WhPost B wb q (H++[UInt8.ofNat x]) C w):=by
 have C326:=zH (hb326 h x (by omega) hH)
 obtain⟨e1,e2⟩:bits .and .i64 (x:Int) 16=0∧IntKind.u8.wrap (x:Int)=(x:Int):=by rcases hx with rfl|rfl<;>decide
 clear h hx
 go_enter Tryz.func328,Tryz.ntmps328
 go_wp2_with (go_at_call 326;(with_reducible refine C326.out.mono ?_);rintro e w' ⟨rfl,hv,hp⟩)
 go_end0
 exact⟨rfl,hv,hp⟩
theorem xp_bits:∀(z m:Fin 8),IntKind.i64.wrap ((z.val:Int)*4)=((4*z.val:Nat):Int)∧IntKind.u8.wrap ((4*z.val:Nat):Int)=((4*z.val:Nat):Int)∧bits .or .u8 1 ((4*z.val:Nat):Int)=((1+4*z.val:Nat):Int) ∧
  IntKind.i64.wrap ((m.val:Int)*32)=((32*m.val:Nat):Int)∧IntKind.u8.wrap ((32*m.val:Nat):Int)=((32*m.val:Nat):Int)∧bits .or .u8 2 ((32*m.val:Nat):Int)=((2+32*m.val:Nat):Int) ∧
  bits .or .u8 ((1+4*z.val:Nat):Int) 2=((3+4*z.val:Nat):Int)∧bits .or .u8 ((3+4*z.val:Nat):Int) ((32*m.val:Nat):Int)=((3+4*z.val+32*m.val:Nat):Int):=by decide
theorem xp329{B wb:Nat}{q:Wt}{H C:List UInt8}{w:World}(h:WtAt B wb q H C w){z m:Nat}(hz:z≤7)(hm:m≤7)(hpz:q.pz=(z:Int))(hpm:q.pm=(m:Int))(hH:H.length≤1000000)(x:Nat)(hx:x=(if q.hz=true then 1+4*z else 0)+(if q.hm=true then 2+32*m else 0)):
  Calls Tryz.prog 329 #[.pointer (some ⟨wb,0,none⟩)] w (WhPost B wb q (H++[UInt8.ofNat x]) C w):=by
 obtain⟨e1,e2,e3,e4,e5,e6,e7,e8⟩:=xp_bits ⟨z,by omega⟩ ⟨m,by omega⟩
 have hx8:x < 256:=by rw[hx];split<;>split<;>omega
 have C326:=zH (hb326 h x hx8 hH)
 have c7:w.cell? ⟨wb,7,none⟩=some (.bool q.hz):=h.c 7
 have c8:w.cell? ⟨wb,8,none⟩=some (.bool q.hm):=h.c 8
 have c9:w.cell? ⟨wb,9,none⟩=some (.int .i64 z):=by rw[h.c];show some (Value.int .i64 q.pz)=_;rw[hpz]
 have c10:w.cell? ⟨wb,10,none⟩=some (.int .i64 m):=by rw[h.c];show some (Value.int .i64 q.pm)=_;rw[hpm]
 obtain⟨z1,hz1⟩:∃z1,z1=q.hz:=⟨_,rfl⟩
 obtain⟨z2,hz2⟩:∃z2,z2=q.hm:=⟨_,rfl⟩
 rw[←hz1] at c7 hx
 rw[←hz2] at c8 hx
 obtain⟨Z4,hZ4⟩:∃Z4,Z4=4*z:=⟨_,rfl⟩
 obtain⟨Z14,hZ14⟩:∃Z14,Z14=1+4*z:=⟨_,rfl⟩
 obtain⟨Z34,hZ34⟩:∃Z34,Z34=3+4*z:=⟨_,rfl⟩
 obtain⟨M32,hM32⟩:∃M32,M32=32*m:=⟨_,rfl⟩
 obtain⟨Y2,hY2⟩:∃Y2,Y2=2+32*m:=⟨_,rfl⟩
 obtain⟨Y3,hY3⟩:∃Y3,Y3=3+4*z+32*m:=⟨_,rfl⟩
 have E1:IntKind.i64.wrap ((z:Int)*4)=(Z4:Int):=by rw[hZ4];exact e1
 have E2:IntKind.u8.wrap (Z4:Int)=(Z4:Int):=by rw[hZ4];exact e2
 have E3:bits .or .u8 1 (Z4:Int)=(Z14:Int):=by rw[hZ4,hZ14];exact e3
 have E4:IntKind.i64.wrap ((m:Int)*32)=(M32:Int):=by rw[hM32];exact e4
 have E5:IntKind.u8.wrap (M32:Int)=(M32:Int):=by rw[hM32];exact e5
 have E6:bits .or .u8 2 (M32:Int)=(Y2:Int):=by rw[hM32,hY2];exact e6
 have E7:bits .or .u8 (Z14:Int) 2=(Z34:Int):=by rw[hZ14,hZ34];exact e7
 have E8:bits .or .u8 (Z34:Int) (M32:Int)=(Y3:Int):=by rw[hZ34,hM32,hY3];exact e8
 have E9:bits .or .u8 0 1=1:=by decide
 have E10:bits .or .u8 0 2=2:=by decide
 have D1:z1=true→z2=false→x=Z14:=fun a b=>by rw[hx,hZ14,a,b];simp
 have D2:z1=false→z2=true→x=Y2:=fun a b=>by rw[hx,hY2,a,b];simp
 have D3:z1=true→z2=true→x=Y3:=fun a b=>by rw[hx,hY3,a,b];simp;omega
 have D4:z1=false→z2=false→x=0:=fun a b=>by rw[hx,a,b];simp
 clear h hx hz1 hz2 hZ4 hZ14 hZ34 hM32 hY2 hY3 e1 e2 e3 e4 e5 e6 e7 e8 hpz hpm hx8
 cases z1<;>cases z2
 all_goals
  first
   | (have hX:=D4 rfl rfl;subst hX)
   | (have hX:=D1 rfl rfl;subst hX)
   | (have hX:=D2 rfl rfl;subst hX)
   | (have hX:=D3 rfl rfl;subst hX)
  clear D1 D2 D3 D4
  go_enter Tryz.func329,Tryz.ntmps329
  go_wp2_with (go_at_call 326;(first|(with_reducible refine C326.out.mono ?_)|refine C326.out.mono ?_);rintro e w' ⟨rfl,hv,hp⟩)
  go_end0
  exact⟨rfl,hv,hp⟩
theorem ih277{B wb:Nat}{q:Wt}{H C:List UInt8}{w:World}(h:WtAt B wb q H C w){z m:Nat}(hz:z≤7)(hm:m≤7)(hpz:q.pz=(z:Int))(hpm:q.pm=(m:Int))(hH:H.length≤1000)(x:Nat)(hx:x=(if q.hz=true then 1+4*z else 0)+(if q.hm=true then 2+32*m else 0)):
  Calls Tryz.prog 277 #[.pointer (some ⟨wb,0,none⟩)] w (WhPost B wb q (H++[UInt8.ofNat (if q.ex=true then 8 else 0)]++(if q.ex=true then [UInt8.ofNat x] else [])) C w):=by
 have c15:w.cell? ⟨wb,15,none⟩=some (.bool false):=h.c 15
 have c16:w.cell? ⟨wb,16,none⟩=some (.bool false):=h.c 16
 have c17:w.cell? ⟨wb,17,none⟩=some (.bool false):=h.c 17
 have c18:w.cell? ⟨wb,18,none⟩=some (.bool q.ex):=h.c 18
 have E1:bits .or .i64 0 8=8:=by decide
 have C8:Hid (Calls Tryz.prog 328 #[.pointer (some ⟨wb,0,none⟩),.int .i64 8] w (WhPost B wb q (H++[UInt8.ofNat 8]) C w)):=md328 h 8 (.inr rfl) (by omega)
 have C0:Hid (Calls Tryz.prog 328 #[.pointer (some ⟨wb,0,none⟩),.int .i64 0] w (WhPost B wb q (H++[UInt8.ofNat 0]) C w)):=md328 h 0 (.inl rfl) (by omega)
 have CX:Hid (∀w1 hv,WtAt B wb { q with hv:=hv } (H++[UInt8.ofNat 8]) C w1→Calls Tryz.prog 329 #[.pointer (some ⟨wb,0,none⟩)] w1 (WhPost B wb { q with hv:=hv } (H++[UInt8.ofNat 8]++[UInt8.ofNat x]) C w1)):=fun w1 hv h1=>xp329 h1 hz hm hpz hpm (by simp;omega) x hx
 have HC:Hid (∀w1 hv,WtAt B wb { q with hv:=hv } (H++[UInt8.ofNat 8]) C w1→w1.cell? ⟨wb,18,none⟩=some (.bool q.ex)):=fun w1 hv h1=>h1.c 18
 obtain⟨ex,hex⟩:∃ex,ex=q.ex:=⟨_,rfl⟩
 rw[←hex] at c18 ⊢
 have HEX:=zH hex
 have HQ:Hid (∀hv0 hv1 H' w1,WtAt B wb { ({ q with hv:=hv0 }:Wt) with hv:=hv1 } H' C w1→WtAt B wb { q with hv:=hv1 } H' C w1):=fun hv0 hv1 H' w1 h=>h
 have c18f:Hid (∀w1 hv,WtAt B wb { q with hv:=hv } (H++[UInt8.ofNat 0]) C w1→w1.cell? ⟨wb,18,none⟩=some (.bool q.ex)):=fun w1 hv h1=>h1.c 18
 clear h hpz hpm hx hex hH
 cases ex
 ·go_enter Tryz.func277,Tryz.ntmps277
  go_wp2_with (go_at_call 328;(with_reducible refine C0.out.mono ?_);rintro e w1 ⟨rfl,hv,hp⟩;have d18:=c18f.out w1 hv hp.out.1;rw[←HEX.out] at d18)
  go_end0
  refine⟨rfl,hv,hp.out.1,hp.out.2⟩
 ·rw[if_pos rfl,if_pos rfl]
  go_enter Tryz.func277,Tryz.ntmps277
  go_wp2_with (first|(go_at_call 328;(with_reducible refine C8.out.mono ?_);rintro e w1 ⟨rfl,hv,hp⟩;have d18:=HC.out w1 hv hp.out.1;rw[←HEX.out] at d18)|(go_at_call 329;(with_reducible refine (CX.out w1 hv hp.out.1).mono ?_);rintro e w2 ⟨rfl,hv2,hp2⟩))
  go_end0
  refine⟨rfl,hv2,HQ.out hv _ _ _ hp2.out.1,hp.out.2.trans hp2.out.2⟩
end Go.Proofs.YtnjjgbcmjnfijaaGreatDoor
