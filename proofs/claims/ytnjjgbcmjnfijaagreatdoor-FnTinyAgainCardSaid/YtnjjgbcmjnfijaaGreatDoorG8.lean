/- The headers that the reference reads. No condition. -/
import Derived.Test.YtnjjgbcmjnfijaaGreatDoorG6
import Derived.Deep.CutBlock
namespace Go.Proofs.YtnjjgbcmjnfijaaGreatDoor
set_option maxRecDepth 100000
set_option maxHeartbeats 4000000
open Go.RowKit
theorem and15:∀c:Fin 256,bits .and .i64 (c.val:Int) 15=((c.val % 16:Nat):Int):=by decide
theorem and1:∀c:Fin 256,bits .and .i64 (c.val:Int) 1=((c.val % 2:Nat):Int):=by decide
theorem and2:∀c:Fin 256,bits .and .i64 (c.val:Int) 2=((c.val / 2 % 2*2:Nat):Int):=by decide
theorem and3:∀c:Fin 256,bits .and .i64 (c.val:Int) 3=((c.val % 4:Nat):Int):=by decide
theorem and4:∀c:Fin 256,bits .and .i64 (c.val:Int) 4=((c.val / 4 % 2*4:Nat):Int):=by decide
theorem and7:∀c:Fin 256,bits .and .i64 (c.val:Int) 7=((c.val % 8:Nat):Int):=by decide
theorem and8:∀c:Fin 256,bits .and .i64 (c.val:Int) 8=((c.val / 8 % 2*8:Nat):Int):=by decide
theorem and16:∀c:Fin 256,bits .and .i64 (c.val:Int) 16=((c.val / 16 % 2*16:Nat):Int):=by decide
theorem bit_ne(c k:Nat):(((c % 2*(k+1):Nat):Int) != 0)=(c % 2 == 1):=by
 have:c % 2=0∨c % 2=1:=by omega
 rcases this with h|h<;>simp[h]
 omega
def iv (x:Int):Value:=.int .i64 x
theorem info3:(Tryz.prog.info? 3).map (fun i=>(i.zero,i.size,i.bytes))=some (some (.int .i64 0),1,8):=by kernel_rfl
theorem own_capE{w:World}{B n sz:Nat}{e:TypeId}{v:Value}{cs:List Value}(h:w.ownsRow B e sz v n cs)(hn:0 < n):∃g cap,v=.slice (some ⟨g,0,none⟩) n cap∧B≤g∧n≤cap:=by
 rcases h.2 with ⟨_,h0⟩|⟨g,cap,cur,h1,h2,_,h4,_⟩
 ·omega
 ·exact⟨g,cap,h1,h2,h4⟩
def zfl (m:Nat):Array Value:=((List.replicate m (0:Nat)).map flv).toArray
theorem zfl_made(m:Nat):madeCells (Value.float .f64 0).cells m=zfl m:=by
 apply Array.toList_inj.1
 have:=toList_madeCells_one (.float .f64 0) m
 unfold zfl
 rw[List.map_replicate]
 exact this
theorem st_fl:∀(a:Addr) (x:Nat) (w:World) (m:Mode),(store a (.float .f64 x) m).run Tryz.prog w=stored Tryz.prog w a (.float .f64 x) m:=fun a _ w m=>run_store Tryz.prog w a _ m rfl
def hcells (kd dm:Nat) (pv:Value) (em ix:Bool) (bx:Value):Array Value:=#[.int .i64 kd,.int .i64 dm,pv,.bool em,.bool ix,bx]
structure HdAt (B r hb:Nat) (l:List UInt8) (any bad unt:Bool) (w:World) (kd dm:Nat) (em ix:Bool) (pv bx:Value) (ps:List Int) (l1:List UInt8) (bad1 unt1:Bool) (w1:World):Prop where
 st:St (Eq r) (· < B) r l any bad unt w l1 bad1 unt1 w1
 box:w1.heap[hb]?=some (.cells (hcells kd dm pv em ix bx) 89 (0,0))
 res:w1.heap[w.heap.size]?=some (.cells (hcells 0 0 (.slice none 0 0) false false (.slice none 0 0)) 89 (0,0))
 own:w1.ownsRow (w.heap.size+1) 3 1 pv ps.length (ps.map iv)
 hge:w.heap.size+1≤hb
 ne:pv.ownBlock≠some hb
 len:2≤ps.length∧ps.length≤4
 bd:∀p∈ps,-8≤p∧p≤7
section
variable {B r hb:Nat}{l:List UInt8}{any bad unt:Bool}{w:World}{kd dm:Nat}{em ix:Bool}{pv bx:Value}{ps:List Int}{l1 l2:List UInt8}{bad1 unt1 bad2 unt2:Bool}{w1 w2:World}
theorem HdAt.step(h:HdAt B r hb l any bad unt w kd dm em ix pv bx ps l1 bad1 unt1 w1)(hr:r < w.heap.size)(s:St (Eq r) (· < B) r l1 any bad1 unt1 w1 l2 bad2 unt2 w2):HdAt B r hb l any bad unt w kd dm em ix pv bx ps l2 bad2 unt2 w2:=by
 have k:∀b,w.heap.size≤b→b < w1.heap.size→w2.heap[b]?=w1.heap[b]?:=fun b h1 h2=>s.fr.block b h2 (by omega)
 exact⟨h.st.trans s,(k hb (by have:=h.hge;omega) (zG h.box).1).trans h.box,(k _ (Nat.le_refl _) (zG h.res).1).trans h.res,ownsRow_keep h.own (fun b h1 h2=>k b (by omega) h2),h.hge,h.ne,h.len,h.bd⟩
theorem HdAt.kept(h:HdAt B r hb l any bad unt w kd dm em ix pv bx ps l1 bad1 unt1 w1)(hr:r < w.heap.size)(hB:B≤w.heap.size)(f:Fr (fun b=>w.heap.size≤b) w1 w2)(hk:∀b,b < w1.heap.size→(b < w.heap.size+1∨b=hb∨some b=pv.ownBlock)→w2.heap[b]?=w1.heap[b]?):HdAt B r hb l any bad unt w kd dm em ix pv bx ps l1 bad1 unt1 w2:=by
 have hs:=h.st.fr.size
 refine⟨⟨h.st.inn.other (hk r (by omega) (.inl (by omega))) (fun b hb=>hk b (by omega) (.inl (by omega))),h.st.fr.transNew f (fun b hb=>.inl hb),h.st.bad,h.st.unt,h.st.len⟩,(hk _ (zG h.box).1 (.inr (.inl rfl))).trans h.box,(hk _ (zG h.res).1 (.inl (by omega))).trans h.res,?_,h.hge,h.ne,h.len,h.bd⟩
 refine⟨h.own.1,h.own.2.imp id ?_⟩
 rintro ⟨g,cap,cur,e1,e2,e3,e4⟩
 exact⟨g,cap,cur,e1,e2,(hk g (zG e3).1 (.inr (.inr (by rw[e1];rfl)))).trans e3,e4⟩
theorem HdAt.setDim(h:HdAt B r hb l any bad unt w kd dm em ix pv bx ps l1 bad1 unt1 w1)(hr:r < w.heap.size)(hB:B≤w.heap.size)(d:Nat):HdAt B r hb l any bad unt w kd d em ix pv bx ps l1 bad1 unt1 (w1.setCell ⟨hb,1,none⟩ (.int .i64 d)):=by
 have hhb:=h.hge
 have k:∀b,b≠hb→(w1.setCell ⟨hb,1,none⟩ (.int .i64 d)).heap[b]?=w1.heap[b]?:=fun b hb=>Below.heap_setCell _ _ _ _ hb
 refine⟨⟨h.st.inn.other (k r (by omega)) (fun b hb=>k b (by omega)),h.st.fr.setNew (by show w.heap.size≤hb;omega) _,h.st.bad,h.st.unt,h.st.len⟩,Lib.heap_setCell_same (i:=1) h.box _,(k _ (by omega)).trans h.res,?_,h.hge,h.ne,h.len,h.bd⟩
 refine⟨h.own.1,h.own.2.imp id ?_⟩
 rintro ⟨g,cap,cur,e1,e2,e3,e4⟩
 refine⟨g,cap,cur,e1,e2,(k g ?_).trans e3,e4⟩
 rintro rfl
 exact h.ne (by rw[e1];rfl)
theorem HdAt.grow(h:HdAt B r hb l any bad unt w kd dm em ix pv bx ps l1 bad1 unt1 w1)(hr:r < w.heap.size)(hB:B≤w.heap.size){o:Obj}{w5:World}{v':Value}{p:Int}(hp : -8≤p∧p≤7)(hl:ps.length≤3)
  (g:(w1.alloc o).grownBy w5 pv.ownBlock) (own:w5.ownsRow (w.heap.size+1) 3 1 v' (ps.length+1) (ps.map iv++[iv p])) (hat:v'.ownBlock=pv.ownBlock∨v'.ownBlock=some (w1.alloc o).heap.size) :
  w5.heap[hb]?=some (.cells (hcells kd dm pv em ix bx) 89 (0,0))∧HdAt B r hb l any bad unt w kd dm em ix v' bx (ps++[p]) l1 bad1 unt1 (w5.setCell ⟨hb,2,none⟩ v'):=by
 have hhb:=h.hge
 have hsz:(w1.alloc o).heap.size=w1.heap.size+1:=by show (w1.heap.push _).size=_;rw[Array.size_push]
 have hpv:∀b,pv.ownBlock=some b→w.heap.size+1≤b:=fun b hb=>(h.own.lt b hb).1
 have k0:∀b,b < w1.heap.size→some b≠pv.ownBlock→w5.heap[b]?=w1.heap[b]?:=fun b hb hn=>(g.block b (by omega) hn).trans (Below.heap_alloc w1 o b hb)
 have hbl:=(zG h.box).1
 have hrl:=(zG h.res).1
 have b5:w5.heap[hb]?=some (.cells (hcells kd dm pv em ix bx) 89 (0,0)):=(k0 hb hbl (fun e=>h.ne e.symm)).trans h.box
 have old:∀b,b < w.heap.size+1→some b≠pv.ownBlock:=fun b hb e=>by have:=hpv b e.symm;omega
 have hw1:=h.st.fr.size
 have k:∀b,b≠hb→(w5.setCell ⟨hb,2,none⟩ v').heap[b]?=w5.heap[b]?:=fun b hb=>Below.heap_setCell _ _ _ _ hb
 have ne':v'.ownBlock≠some hb:=by
  rcases hat with e|e
  ·rw[e];exact h.ne
  ·rw[e,hsz];intro e2;injection e2 with e2;omega
 refine⟨b5,⟨h.st.inn.other ((k r (by omega)).trans (k0 r (by omega) (old r (by omega)))) (fun b hb=>(k b (by omega)).trans (k0 b (by omega) (old b (by omega)))),((h.st.fr.alloc o).grown g (fun b hb=>.inl (by have:=hpv b hb;omega))).setNew (by show w.heap.size≤hb;omega) _,h.st.bad,h.st.unt,h.st.len⟩,
  Lib.heap_setCell_same (i:=2) b5 _,(k _ (by omega)).trans ((k0 _ hrl (old _ (by omega))).trans h.res),?_,hhb,ne',?_,fun q hq=>?_⟩
 ·have o2:w5.ownsRow (w.heap.size+1) 3 1 v' (ps++[p]).length ((ps++[p]).map iv):=by
   rw[List.length_append,List.map_append];exact own
  refine⟨o2.1,o2.2.imp id ?_⟩
  rintro ⟨g2,cap,cur,e1,e2,e3,e4⟩
  refine⟨g2,cap,cur,e1,e2,(k g2 ?_).trans e3,e4⟩
  rintro rfl
  exact ne' (by rw[e1];rfl)
 ·rw[List.length_append];have:=h.len;simp;omega
 ·rcases List.mem_append.1 hq with hq|hq
  ·exact h.bd q hq
  ·simp at hq;subst hq;exact hp
end
structure BxAt (B r hb:Nat) (l:List UInt8) (any bad unt:Bool) (w:World) (kd dm:Nat) (em ix:Bool) (pv:Value) (ps:List Int) (l4:List UInt8) (bad4 unt4:Bool) (g1 g2 k:Nat) (lk:List UInt8) (badk untk:Bool) (wr:World):Prop where
 hd:HdAt B r hb l any bad unt w kd dm em ix pv (.slice none 0 0) ps lk badk untk wr
 lo:∃xs:List Nat,xs.length=ps.length∧wr.heap[g1]?=some (.cells (xs.map flv).toArray 40 (0,0))
 hi:∃ys:List Nat,ys.length=ps.length∧wr.heap[g2]?=some (.cells (ys.map flv).toArray 40 (0,0))
 n1:w.heap.size+1≤g1∧g1≠hb∧pv.ownBlock≠some g1
 n2:w.heap.size+1≤g2∧g2≠hb∧pv.ownBlock≠some g2
 ne:g1≠g2
 ok:badk=false→untk=false→bad4=false∧unt4=false∧∃ds,RC l4 ds lk∧ds.length=k∧∀d∈ds,-18014398509481984≤d∧d≤18014398509481984
 len:lk.length≤l4.length
section
variable {B r hb:Nat}{l:List UInt8}{any bad unt:Bool}{w:World}{kd dm:Nat}{em ix:Bool}{pv:Value}{ps:List Int}{l4:List UInt8}{bad4 unt4:Bool}{g1 g2 k:Nat}{lk l5:List UInt8}{badk untk bad5 unt5:Bool}{w1 w2:World}
theorem BxAt.step(h:BxAt B r hb l any bad unt w kd dm em ix pv ps l4 bad4 unt4 g1 g2 k lk badk untk w1)(hr:r < w.heap.size)(s:St (Eq r) (· < B) r lk any badk untk w1 l5 bad5 unt5 w2)(hl:l5=lk∨(bad5=false→unt5=false→False)):BxAt B r hb l any bad unt w kd dm em ix pv ps l4 bad4 unt4 g1 g2 k l5 bad5 unt5 w2:=by
 obtain⟨xs,x1,x2⟩:=h.lo
 obtain⟨ys,y1,y2⟩:=h.hi
 have n1:=h.n1
 have n2:=h.n2
 refine⟨h.hd.step hr s,⟨xs,x1,(s.fr.block _ (zG x2).1 (by omega)).trans x2⟩,⟨ys,y1,(s.fr.block _ (zG y2).1 (by omega)).trans y2⟩,n1,n2,h.ne,fun e1 e2=>?_,Nat.le_trans s.len h.len⟩
 rcases hl with rfl|hl
 ·refine h.ok ?_ ?_
  ·cases hb:badk with
   | false=>rfl
   | true=>rw[s.bad hb] at e1;cases e1
  ·cases hb:untk with
   | false=>rfl
   | true=>rw[s.unt hb] at e2;cases e2
 ·exact (hl e1 e2).elim
theorem BxAt.read(h:BxAt B r hb l any bad unt w kd dm em ix pv ps l4 bad4 unt4 g1 g2 k lk badk untk w1)(hr:r < w.heap.size){o n:Int}(ho : -9007199254740992≤o∧o≤9007199254740992)(hn : -9007199254740992≤n∧n≤9007199254740992)(s:St (Eq r) (· < B) r lk any badk untk w1 l5 bad5 unt5 w2)(hz:bad5=false→unt5=false→∃z:Nat,UV lk z l5∧n=o+unz z):BxAt B r hb l any bad unt w kd dm em ix pv ps l4 bad4 unt4 g1 g2 (k+1) l5 bad5 unt5 w2:=by
 obtain⟨xs,x1,x2⟩:=h.lo
 obtain⟨ys,y1,y2⟩:=h.hi
 have n1:=h.n1
 have n2:=h.n2
 refine⟨h.hd.step hr s,⟨xs,x1,(s.fr.block _ (zG x2).1 (by omega)).trans x2⟩,⟨ys,y1,(s.fr.block _ (zG y2).1 (by omega)).trans y2⟩,n1,n2,h.ne,fun e1 e2=>?_,Nat.le_trans s.len h.len⟩
 obtain⟨o1,o2,ds,o3,o4,o5⟩:=h.ok (by
  cases hb:badk with
  | false=>rfl
  | true=>rw[s.bad hb] at e1;cases e1) (by
  cases hb:untk with
  | false=>rfl
  | true=>rw[s.unt hb] at e2;cases e2)
 obtain⟨z,z1,z2⟩:=hz e1 e2
 refine⟨o1,o2,ds++[unz z],o3.snoc z1 (uv_lt z1),by simp[o4],fun d hd=>?_⟩
 rcases List.mem_append.1 hd with hd|hd
 ·exact o5 d hd
 ·simp at hd;subst hd;omega
theorem BxAt.set(h:BxAt B r hb l any bad unt w kd dm em ix pv ps l4 bad4 unt4 g1 g2 k lk badk untk w1)(hr:r < w.heap.size)(hB:B≤w.heap.size)(g:Nat)(hg:g=g1∨g=g2)(i x:Nat):BxAt B r hb l any bad unt w kd dm em ix pv ps l4 bad4 unt4 g1 g2 k lk badk untk (w1.setCell ⟨g,i,none⟩ (.float .f64 x)):=by
 obtain⟨xs,x1,x2⟩:=h.lo
 obtain⟨ys,y1,y2⟩:=h.hi
 have n1:=h.n1
 have n2:=h.n2
 have hgg:w.heap.size+1≤g∧g≠hb∧pv.ownBlock≠some g:=by rcases hg with rfl|rfl<;>assumption
 have set_fl:∀(zs:List Nat),((zs.map flv).toArray).setIfInBounds i (.float .f64 x)=((zs.set i x).map flv).toArray:=fun zs=>by
  rw[List.map_set];simp[flv]
 refine⟨h.hd.kept hr hB ((Fr.refl _ _).setR _ (by show w.heap.size≤g;omega)) (fun b _ hb2=>Below.heap_setCell _ _ _ _ ?_),?_,?_,n1,n2,h.ne,h.ok,h.len⟩
 ·show b≠g
  rcases hb2 with hb2|hb2|hb2
  ·omega
  ·rw[hb2];exact fun e=>hgg.2.1 e.symm
  ·rintro rfl;exact hgg.2.2 hb2.symm
 ·by_cases e:g=g1
  ·subst e
   exact⟨xs.set i x,by simpa using x1,by rw[Lib.heap_setCell_same x2,set_fl]⟩
  ·exact⟨xs,x1,(Below.heap_setCell _ _ _ _ (fun e2=>e e2.symm)).trans x2⟩
 ·by_cases e:g=g2
  ·subst e
   exact⟨ys.set i x,by simpa using y1,by rw[Lib.heap_setCell_same y2,set_fl]⟩
  ·exact⟨ys,y1,(Below.heap_setCell _ _ _ _ (fun e2=>e e2.symm)).trans y2⟩
theorem fl_cell{w:World}{g i:Nat}{xs:List Nat}(h:w.heap[g]?=some (.cells (xs.map flv).toArray 40 (0,0)))(hi:i < xs.length):∃x,w.cell? ⟨g,i,none⟩=some (.float .f64 x):=by
 rw[zC h]
 exact⟨xs[i],by simp[hi,flv]⟩
end
section
variable {B r hb:Nat}{l:List UInt8}{any bad unt:Bool}{w:World}{kd dm:Nat}{em ix:Bool}{pv bx:Value}{ps:List Int}{l1 l4:List UInt8}{bad1 unt1 bad4 unt4:Bool}{g1 g2 k:Nat}{lk:List UInt8}{badk untk:Bool}{w1:World}
theorem HdAt.setBox(h:HdAt B r hb l any bad unt w kd dm em ix pv bx ps l1 bad1 unt1 w1)(hr:r < w.heap.size)(hB:B≤w.heap.size)(v:Value):HdAt B r hb l any bad unt w kd dm em ix pv v ps l1 bad1 unt1 (w1.setCell ⟨hb,5,none⟩ v):=by
 have hhb:=h.hge
 have k:∀b,b≠hb→(w1.setCell ⟨hb,5,none⟩ v).heap[b]?=w1.heap[b]?:=fun b hb=>Below.heap_setCell _ _ _ _ hb
 refine⟨⟨h.st.inn.other (k r (by omega)) (fun b hb=>k b (by omega)),h.st.fr.setNew (by show w.heap.size≤hb;omega) _,h.st.bad,h.st.unt,h.st.len⟩,Lib.heap_setCell_same (i:=5) h.box _,(k _ (by omega)).trans h.res,?_,h.hge,h.ne,h.len,h.bd⟩
 refine⟨h.own.1,h.own.2.imp id ?_⟩
 rintro ⟨g,cap,cur,e1,e2,e3,e4⟩
 refine⟨g,cap,cur,e1,e2,(k g ?_).trans e3,e4⟩
 rintro rfl
 exact h.ne (by rw[e1];rfl)
def bxo (dm g1 g2 m:Nat):Obj:=.cells #[.int .i64 1,.int .i64 dm,.slice (some ⟨g1,0,none⟩) m m,.slice none 0 0,.int .i64 1,.int .i64 dm,.slice (some ⟨g2,0,none⟩) m m,.slice none 0 0] 27 (0,0)
theorem BxAt.fin(h:BxAt B r hb l any bad unt w kd dm em ix pv ps l4 bad4 unt4 g1 g2 k lk badk untk w1)(hr:r < w.heap.size)(hB:B≤w.heap.size)(hdm:dm≤3){m:Nat}(hm:m=ps.length){w3:World}(hw3:w3=(w1.setCell ⟨hb,5,none⟩ (.slice (some ⟨w1.heap.size,0,none⟩) 2 2)).alloc (bxo dm g1 g2 m)):
  HdAt B r hb l any bad unt w kd dm em ix pv (.slice (some ⟨w1.heap.size,0,none⟩) 2 2) ps lk badk untk w3∧∃gs,RowsAt (GAt 1) (fun b=>w.heap.size+1≤b) 4 w3 (.slice (some ⟨w1.heap.size,0,none⟩) 2 2) gs:=by
 have hbl:=(zG h.hd.box).1
 have hw1:=h.hd.st.fr.size
 have hps:=h.hd.len
 have hsz:(w1.setCell ⟨hb,5,none⟩ (.slice (some ⟨w1.heap.size,0,none⟩) 2 2)).heap.size=w1.heap.size:=by simp[World.setCell]
 have a0:=(h.hd.setBox hr hB (.slice (some ⟨w1.heap.size,0,none⟩) 2 2)).kept hr hB ((Fr.refl _ _).alloc (bxo dm g1 g2 m)) (fun b hb _=>Below.heap_alloc _ _ b hb)
 rw[←hw3] at a0
 refine⟨a0,?_⟩
 obtain⟨xs,x1,x2⟩:=h.lo
 obtain⟨ys,y1,y2⟩:=h.hi
 have n1:=h.n1
 have n2:=h.n2
 have kk:∀b,b < w1.heap.size→b≠hb→w3.heap[b]?=w1.heap[b]?:=fun b h1 h2=>by rw[hw3];exact (Below.heap_alloc _ _ b (by omega)).trans (Below.heap_setCell _ _ _ _ h2)
 have kn:w3.heap[w1.heap.size]?=some (bxo dm g1 g2 m):=by
  have:=zN (w1.setCell ⟨hb,5,none⟩ (.slice (some ⟨w1.heap.size,0,none⟩) 2 2)) (bxo dm g1 g2 m)
  rw[hsz] at this
  rw[hw3];exact this
 have numsAt:∀(g:Nat) (zs:List Nat),zs.length=ps.length→w.heap.size+1≤g→g≠hb→w1.heap[g]?=some (.cells (zs.map flv).toArray 40 (0,0))→NumsAt (fun b=>w.heap.size+1≤b) w3 (.slice (some ⟨g,0,none⟩) m m) zs:=by
  intro g zs z1 z2 z3 z4
  refine⟨by simp,_,_,by rw[z1,←hm],by omega,fun e=>by simp at e,fun _=>⟨g,0,rfl,by show w.heap.size+1≤g;omega,fun j u hu=>?_⟩⟩
  rw[Nat.zero_add,zC ((kk g (zG z4).1 z3).trans z4)]
  simpa using hu
 have gat:∀(g:Nat) (zs:List Nat),zs.length=ps.length→w.heap.size+1≤g→g≠hb→w1.heap[g]?=some (.cells (zs.map flv).toArray 40 (0,0))→GAt 1 (fun b=>w.heap.size+1≤b) w3 [.int .i64 1,.int .i64 dm,.slice (some ⟨g,0,none⟩) m m,.slice none 0 0] (.mk 1 dm zs []):=by
  intro g zs z1 z2 z3 z4
  exact⟨_,_,rfl,numsAt g zs z1 z2 z3 z4,RowsAt.nil,by show zs.length≤_;omega,Nat.zero_le _,by show (0:Int)≤1;decide,by show (1:Int)≤15;decide,Int.natCast_nonneg _,by show (dm:Int)≤3;omega⟩
 refine⟨[.mk 1 dm xs [],.mk 1 dm ys []],[[.int .i64 1,.int .i64 dm,.slice (some ⟨g1,0,none⟩) m m,.slice none 0 0],[.int .i64 1,.int .i64 dm,.slice (some ⟨g2,0,none⟩) m m,.slice none 0 0]],⟨rfl,_,_,rfl,Nat.le_refl _,fun e=>by simp at e,fun _=>⟨w1.heap.size,0,rfl,by show w.heap.size+1≤w1.heap.size;have:=h.hd.hge;omega,fun j u hu=>?_⟩⟩,rfl,fun i c x hc hx=>?_⟩
 ·rw[Nat.zero_add,zC kn]
  simpa using hu
 ·match i,hc,hx with
  | 0,hc,hx =>
   simp at hc hx
   subst hc hx
   exact⟨rfl,gat g1 xs x1 n1.1 n1.2.1 x2⟩
  | 1,hc,hx =>
   simp at hc hx
   subst hc hx
   exact⟨rfl,gat g2 ys y1 n2.1 n2.2.1 y2⟩
  | i+2,hc,hx=>simp at hc
end
def HeadPost (B r:Nat) (l:List UInt8) (any bad unt:Bool) (w:World) (e:Ending) (w':World):Prop :=
 ∃(kd dm pg pc m:Nat) (em ix:Bool) (bx:Value),e=.returned (.agg #[.int .i64 kd,.int .i64 dm,.slice (some ⟨pg,0,none⟩) m pc,.bool em,.bool ix,bx]) ∧
  Hid (∃(ps:List Int) (l1:List UInt8) (bad1 unt1:Bool) (gs:List G) (mt:Nat) (xy:Int),m=ps.length∧kd≤15∧dm≤3∧St (Eq r) (· < B) r l any bad unt w l1 bad1 unt1 w'∧PrecsAt (fun b=>w.heap.size≤b) w' (.slice (some ⟨pg,0,none⟩) m pc) ps∧2≤ps.length∧ps.length≤4∧(∀p∈ps,-8≤p∧p≤7)∧ps.length=2+dm % 2+dm / 2 ∧
   RowsAt (GAt 1) (fun b=>w.heap.size≤b) 4 w' bx gs∧(bad1=false→unt1=false→l1.length+2≤l.length)∧(bad1=false→unt1=false→(any=false→HeadP l kd mt dm xy ps l1)∧em=(mt / 16 % 2 == 1)∧ix=(mt / 4 % 2 == 1)∧(em=true→mt=16∧1≤kd∧kd≤7)))
theorem HdAt.post{B r hb:Nat}{l:List UInt8}{any bad unt:Bool}{w:World}{kd dm:Nat}{em ix:Bool}{pg pc m:Nat}{bx:Value}{ps:List Int}{l1:List UInt8}{bad1 unt1:Bool}{wz w':World}{gs:List G}{mt:Nat}{xy:Int}
  (h:HdAt B r hb l any bad unt w kd dm em ix (.slice (some ⟨pg,0,none⟩) m pc) bx ps l1 bad1 unt1 wz) (hr:r < w.heap.size) (hB:B≤w.heap.size) (hm:m=ps.length) (hk:kd≤15) (hd:dm≤3) (hp:ps.length=2+dm % 2+dm / 2) (hg:RowsAt (GAt 1) (fun b=>w.heap.size+1≤b) 4 wz bx gs) (f:Fr (Eq w.heap.size) wz w')
  (hl:bad1=false→unt1=false→l1.length+2≤l.length) (hs:bad1=false→unt1=false→(any=false→HeadP l kd mt dm xy ps l1)∧em=(mt / 16 % 2 == 1)∧ix=(mt / 4 % 2 == 1)∧(em=true→mt=16∧1≤kd∧kd≤7)) :
  HeadPost B r l any bad unt w (.returned (.agg #[.int .i64 kd,.int .i64 dm,.slice (some ⟨pg,0,none⟩) m pc,.bool em,.bool ix,bx])) w':=by
 have hw1:=h.st.fr.size
 have own:=h.own
 rw[←hm] at own
 refine⟨kd,dm,pg,pc,m,em,ix,bx,rfl,ps,l1,bad1,unt1,gs,mt,xy,hm,hk,hd,⟨h.st.inn.other (f.block r (by omega) (by omega)) (fun b hb=>f.block b (by omega) (by omega)),h.st.fr.transNew f (fun b hb=>.inl (by omega)),h.st.bad,h.st.unt,h.st.len⟩,?_,h.len.1,h.len.2,h.bd,hp,?_,hl,hs⟩
 ·have c1:=(CellsAt.of_own own).mono (Q:=fun b=>w.heap.size+1≤b) (by decide) (fun b hb _=>(own.lt b hb.symm).1)
  have c2:=c1.kept (w':=w') (fun b hb hl=>f.block b hl (by omega))
  unfold PrecsAt
  rw[←hm]
  exact c2.mono (by decide) (fun b hb _=>by omega)
 ·exact (hg.kept (GAt.kp 1) (w':=w') (fun b hb hl=>f.block b hl (by omega))).mono (GAt.kp 1) (by decide) (fun b hb _=>by omega)
theorem fr6(wz:World)(b:Nat)(v0 v1 v2 v3 v4 v5:Value):Fr (Eq b) wz ((((((wz.setCell ⟨b,0,none⟩ v0).setCell ⟨b,1,none⟩ v1).setCell ⟨b,2,none⟩ v2).setCell ⟨b,3,none⟩ v3).setCell ⟨b,4,none⟩ v4).setCell ⟨b,5,none⟩ v5) :=
 ((((((Fr.refl _ _).setR _).setR _).setR _).setR _).setR _).setR _
theorem head47(B r:Nat)(l:List UInt8)(any bad unt:Bool)(w:World)(hB:B≤w.heap.size)(hll:l.length≤1000000)(hR:RIn (· < B) r w l any bad unt):
  Calls Tryz.prog 47 #[.pointer (some ⟨r,0,none⟩)] w (HeadPost B r l any bad unt w):=by
 obtain⟨w0,hw0⟩:∃w0,w0=w.alloc (.cells #[.int .i64 0,.int .i64 0,.slice none 0 0,.bool false,.bool false,.slice none 0 0] 89):=⟨_,rfl⟩
 have H108:Hid (∀l bad unt w,RIn (· < B) r w l any bad unt→Calls Tryz.prog 108 #[.pointer (some ⟨r,0,none⟩)] w fun e w'=>∃(c:Nat) (l':List UInt8) (bad':Bool),e=.returned (.int .i64 c)∧Hid (ByteAt (· < B) r l any bad unt w c l' bad' w')):=fun l bad unt w h=>byteAt h
 have HR0:Hid (RIn (· < B) r w0 l any bad unt):=by
  rw[hw0]
  exact hR.fr (R:=fun _=>False) ((Fr.refl _ w).alloc _) (by simp) (by simp) hB
 have HRL:Hid (r < w.heap.size):=hR.lt
 have HW0:=zH hw0
 clear hw0 hR
 go_enter Tryz.func47,Tryz.ntmps47
 go_upto_region 1 with fail
 rw[←HW0.out]
 go_upto_region 2 with first|(go_at_call 108;refine (H108.out _ _ _ _ HR0.out).mono ?_;rintro e w1 ⟨b0,l1,bad1,rfl,h1⟩)|(go_at_call 108;refine (H108.out _ _ _ _ h1.out.inn).mono ?_;rintro e w2 ⟨b1,l2,bad2,rfl,h2⟩)
 have q0:=h1.out.lt
 have q1:=h2.out.lt
 have s1:(0:Int)≤(b0:Int):=by omega
 have s2:(b0:Int) < 256:=by omega
 obtain⟨xy,hxy⟩:∃xy:Int,xy=unz ((b0 / 16:Nat):Int):=⟨_,rfl⟩
 have hx1 : -8≤xy∧xy≤7:=by rw[hxy];unfold unz;split<;>omega
 have H7:Hid (∀w,Calls Tryz.prog 7 #[.int .u64 ((b0:Int) / 16)] w fun e w'=>e=.returned (.int .i64 xy)∧w=w'):=by
  intro w
  have:=unz7 ((b0:Int) / 16) (by omega) (by omega) w
  rw[hxy]
  exact this
 have HXY:=zH hxy
 clear hxy
 go_upto_region 3 with (go_at_call 7;refine (H7.out _).mono ?_;rintro e w3 ⟨rfl,rfl⟩)
 have a15:=and15 ⟨b0,q0⟩
 have a4:=and4 ⟨b1,q1⟩
 have a16:=and16 ⟨b1,q1⟩
 have a8:=and8 ⟨b1,q1⟩
 have a2:=and2 ⟨b1,q1⟩
 have a1:=and1 ⟨b1,q1⟩
 obtain⟨kd,hkd⟩:∃kd,kd=b0 % 16:=⟨_,rfl⟩
 have hkd15:kd≤15:=by omega
 obtain⟨e4,he4⟩:∃e,e=(b1 / 4 % 2 == 1):=⟨_,rfl⟩
 obtain⟨e16,he16⟩:∃e,e=(b1 / 16 % 2 == 1):=⟨_,rfl⟩
 obtain⟨e8,he8⟩:∃e,e=(b1 / 8 % 2 == 1):=⟨_,rfl⟩
 obtain⟨e2,he2⟩:∃e,e=(b1 / 2 % 2 == 1):=⟨_,rfl⟩
 obtain⟨e1,he1⟩:∃e,e=(b1 % 2 == 1):=⟨_,rfl⟩
 simp only at a4 a16 a8 a2 a1
 have t4:=bit_ne (b1 / 4) 3
 have t16:=bit_ne (b1 / 16) 15
 have t8:=bit_ne (b1 / 8) 7
 have t2:=bit_ne (b1 / 2) 1
 have t1:=bit_ne b1 0
 rw[Nat.zero_add,Nat.mul_one] at t1
 rw[←he4] at t4
 rw[←he16] at t16
 rw[←he8] at t8
 rw[←he2] at t2
 rw[←he1] at t1
 simp only[Nat.reduceAdd] at t4 t16 t8 t2
 rw[←a4] at t4
 rw[←a16] at t16
 rw[←a8] at t8
 rw[←a2] at t2
 rw[←a1] at t1
 simp only at a15
 rw[←hkd] at a15
 have HE:=zH (⟨hkd,he4,he16,he8,he2,he1⟩:_∧_∧_∧_∧_∧_)
 clear a4 a16 a8 a2 a1 hkd he4 he16 he8 he2 he1
 have hr:=HRL.out
 have H12:=zH (show bad2=false→bad1=false∧l=UInt8.ofNat b0 :: UInt8.ofNat b1 :: l2 from fun h=>by
  have hb1:bad1=false:=by
   cases hb:bad1 with
   | false=>rfl
   | true=>rw[h2.out.bad hb] at h;cases h
  exact⟨hb1,by rw[h1.out.fine hb1,h2.out.fine h]⟩)
 have ST2:Hid (St (Eq r) (· < B) r l any bad unt w l2 bad2 unt w2):=by
  have f0:Fr (Eq r) w w0:=by rw[HW0.out];exact (Fr.refl _ w).alloc _
  exact⟨h2.out.inn,(f0.trans h1.out.fr).trans h2.out.fr,fun e=>h2.out.bad (h1.out.bad e),fun e=>e,Nat.le_trans h2.out.len h1.out.len⟩
 obtain⟨hb,hhb⟩:∃hb,hb=w2.heap.size+1:=⟨_,rfl⟩
 obtain⟨wA,hwA⟩:∃wA,wA=(w2.alloc (.cells #[.int .i64 xy,.int .i64 xy] 3)).alloc (.cells #[.int .i64 kd,.int .i64 0,.slice (some ⟨w2.heap.size,0,none⟩) 2 2,.bool e16,.bool e4,.slice none 0 0] 89):=⟨_,rfl⟩
 have HA:Hid (HdAt B r hb l any bad unt w kd 0 e16 e4 (.slice (some ⟨w2.heap.size,0,none⟩) 2 2) (.slice none 0 0) [xy,xy] l2 bad2 unt wA):=by
  have hrl:r < w.heap.size:=hr
  have s0:w0.heap.size=w.heap.size+1:=by rw[HW0.out];show (w.heap.push _).size=_;rw[Array.size_push]
  have z1:=h1.out.fr.size
  have z2:=h2.out.fr.size
  have e0:w0.heap[w.heap.size]?=some (.cells (hcells 0 0 (.slice none 0 0) false false (.slice none 0 0)) 89 (0,0)):=by rw[HW0.out];exact zN _ _
  have e2:w2.heap[w.heap.size]?=some (.cells (hcells 0 0 (.slice none 0 0) false false (.slice none 0 0)) 89 (0,0)):=(h2.out.fr.block _ (by omega) (by omega)).trans ((h1.out.fr.block _ (by omega) (by omega)).trans e0)
  have p1:(w2.alloc (.cells #[.int .i64 xy,.int .i64 xy] 3)).heap.size=w2.heap.size+1:=by show (w2.heap.push _).size=_;rw[Array.size_push]
  have fA:Fr (fun b=>w.heap.size≤b) w2 wA:=by rw[hwA];exact ((Fr.refl _ _).alloc _).alloc _
  have kA:∀b,b < w2.heap.size→wA.heap[b]?=w2.heap[b]?:=fun b hb=>by
   rw[hwA];exact (Below.heap_alloc (w2.alloc (.cells #[.int .i64 xy,.int .i64 xy] 3)) _ b (by omega)).trans (Below.heap_alloc w2 _ b hb)
  have nA:wA.heap[w2.heap.size]?=some (.cells #[.int .i64 xy,.int .i64 xy] 3 (0,0)):=by
   rw[hwA];exact (Below.heap_alloc (w2.alloc (.cells #[.int .i64 xy,.int .i64 xy] 3)) _ _ (by omega)).trans (zN _ _)
  have bA:wA.heap[hb]?=some (.cells (hcells kd 0 (.slice (some ⟨w2.heap.size,0,none⟩) 2 2) e16 e4 (.slice none 0 0)) 89 (0,0)):=by
   have:=zN (w2.alloc (.cells #[.int .i64 xy,.int .i64 xy] 3)) (.cells #[.int .i64 kd,.int .i64 0,.slice (some ⟨w2.heap.size,0,none⟩) 2 2,.bool e16,.bool e4,.slice none 0 0] 89)
   rw[p1] at this
   rw[hwA,hhb]
   exact this
  refine⟨⟨ST2.out.inn.other (kA r (by omega)) (fun b hb=>kA b (by omega)),ST2.out.fr.transNew fA (fun b hb=>.inl hb),ST2.out.bad,ST2.out.unt,ST2.out.len⟩,bA,(kA _ (by omega)).trans e2,?_,by omega,?_,⟨Nat.le_refl _,by simp⟩,fun p hp=>?_⟩
  ·exact⟨rfl,.inr ⟨w2.heap.size,2,#[.int .i64 xy,.int .i64 xy],rfl,by omega,nA,Nat.le_refl _,by decide,rfl,rfl⟩⟩
  ·intro e
   have e:some w2.heap.size=some hb:=e
   injection e with e
   omega
  ·simp at hp;subst hp;exact hx1
 have HWA:=zH hwA
 have HHB:=zH hhb
 obtain⟨i0,hi0,hz0,hz1,hz2⟩:=info_parts info3
 clear hwA hhb
 go_upto_if 36 with fail
 rw[←HWA.out,←HHB.out]
 clear h1 h2
 go_cut [] from 37 to 63 (fun wr=>∃(dm:Nat) (pv:Value) (ps:List Int) (l3:List UInt8) (bad3:Bool),Hid (HdAt B r hb l any bad unt w kd dm e16 e4 pv (.slice none 0 0) ps l3 bad3 unt wr∧dm≤3∧ps.length=2+dm % 2+dm / 2∧(bad3=false→bad2=false∧ExtP e8 xy l2 dm ps l3)∧l3.length≤l2.length))
 case first =>
  cases e8 with
  | false =>
   go_wp2_with fail
   go_meet
   exact⟨0,_,_,l2,bad2,HA.out,by omega,rfl,fun h=>⟨h,by simp[ExtP]⟩,Nat.le_refl _⟩
  | true =>
   have C3:=zH (H108.out _ _ _ _ HA.out.st.inn)
   go_upto_region 6 with (go_at_call 108;refine C3.out.mono ?_;rintro e w3 ⟨b2,l3,bad3,rfl,h3⟩)
   have q2:=h3.out.lt
   have HB:=zH (HA.out.step hr (w2:=w3) (l2:=l3) (bad2:=bad3) (unt2:=unt) ⟨h3.out.inn,h3.out.fr,h3.out.bad,fun h=>h,h3.out.len⟩)
   have c1:w3.cell? ⟨hb,1,none⟩=some (.int .i64 0):=by rw[zC HB.out.box];rfl
   have f1:w3.frozen? ⟨hb,1,none⟩=false:=zF HB.out.box 1
   have a3:=and3 ⟨b2,q2⟩
   simp only at a3
   obtain⟨dm,hdm⟩:∃dm,dm=b2 % 4:=⟨_,rfl⟩
   obtain⟨z,hz⟩:∃z,z=(b2 % 2 == 1):=⟨_,rfl⟩
   obtain⟨y,hy⟩:∃y,y=(b2 / 2 % 2 == 1):=⟨_,rfl⟩
   obtain⟨p,hp⟩:∃p,p=b2 / 4 % 8:=⟨_,rfl⟩
   obtain⟨q,hq⟩:∃q,q=b2 / 32:=⟨_,rfl⟩
   have tz:=bit_ne b2 0
   have ty:=bit_ne (b2 / 2) 1
   have b1':=and1 ⟨b2,q2⟩
   have b2':=and2 ⟨b2,q2⟩
   have b7:=and7 ⟨b2 / 4,by omega⟩
   have b8:bits .and .i64 ((b2:Int) / 32) 7=((b2 / 32 % 8:Nat):Int):=and7 ⟨b2 / 32,by omega⟩
   simp only at b1' b2' b7
   rw[Nat.zero_add,Nat.mul_one] at tz
   simp only[Nat.reduceAdd] at ty
   rw[←hz,←b1'] at tz
   rw[←hy,←b2'] at ty
   rw[←hdm] at a3
   rw[←hp] at b7
   rw[show b2 / 32 % 8=b2 / 32 by omega,←hq] at b8
   have e7:((b2 / 4:Nat):Int)=(b2:Int) / 4:=by omega
   rw[e7] at b7
   have hp7:p≤7:=by omega
   have hdm3:dm≤3:=by omega
   have hq7:q≤7:=by omega
   have sg0:(0:Int)≤(b2:Int):=by omega
   have sg1:(b2:Int) < 256:=by omega
   have HD:=zH (⟨hdm,hz,hy,hp,hq⟩:_∧_∧_∧_∧_)
   clear b1' b2' hdm hz hy hp hq e7
   have HBD:=zH (HB.out.setDim hr hB dm)
   obtain⟨wB,hwB⟩:∃wB,wB=w3.setCell ⟨hb,1,none⟩ (.int .i64 dm):=⟨_,rfl⟩
   have HBD:Hid (HdAt B r hb l any bad unt w kd dm e16 e4 (.slice (some ⟨w2.heap.size,0,none⟩) 2 2) (.slice none 0 0) [xy,xy] l3 bad3 unt wB):=by rw[hwB];exact HBD.out
   have HWB:=zH hwB
   clear hwB HB HA
   go_upto_if 44 with fail
   rw[←HWB.out]
   obtain⟨ps1,hps1⟩:∃ps1,ps1=[xy,xy]++(if z=true then [(p:Int)] else []):=⟨_,rfl⟩
   have HP1:=zH hps1
   obtain⟨ps2,hps2⟩:∃ps2,ps2=ps1++(if y=true then [(q:Int)] else []):=⟨_,rfl⟩
   have HP2:=zH hps2
   clear hps1 hps2
   go_cut [] from 45 to 52 (fun wr=>∃(pv:Value),Hid (HdAt B r hb l any bad unt w kd dm e16 e4 pv (.slice none 0 0) ps1 l3 bad3 unt wr))
   case first =>
    have c2:wB.cell? ⟨hb,2,none⟩=some (.slice (some ⟨w2.heap.size,0,none⟩) 2 2):=by rw[zC HBD.out.box];rfl
    cases z with
    | false =>
     go_wp2_with fail
     go_meet
     exact⟨_,by rw[HP1.out];exact HBD.out⟩
    | true =>
     have hsz:w.heap.size+1≤wB.heap.size:=by have:=HBD.out.hge;have:=(zG HBD.out.box).1;omega
     have K5:Hid (w.heap.size+1≤(wB.alloc (.cells #[iv p] 3)).heap.size):=by
      show _≤(wB.heap.push _).size
      rw[Array.size_push];omega
     have K7:Hid ((wB.alloc (.cells #[iv p] 3)).ownsRow (w.heap.size+1) 3 1 (.slice (some ⟨w2.heap.size,0,none⟩) 2 2) 2 ([xy,xy].map iv)):=HBD.out.own.alloc _
     have KG:Hid (∀(v':Value) (w5:World),w5.ownsRow (w.heap.size+1) 3 1 v' (2+1) ([xy,xy].map iv++[iv p])→(wB.alloc (.cells #[iv p] 3)).grownBy w5 (some w2.heap.size)→(v'.ownBlock=some w2.heap.size∨v'.ownBlock=some (wB.alloc (.cells #[iv p] 3)).heap.size)→_):=fun v' w5 o5 g5 a5=>HBD.out.grow hr hB (p:=(p:Int)) (by omega) (by simp) g5 o5 a5
     clear hsz
     go_wp2_with (at_builtin;refine wpList_append_own_at _ rfl _ _ 77 rfl (w.heap.size+1) 3 i0 (.int .i64 0) 1 8 Tryz.underlying77 hi0 hz0 hz1 hz2 rfl (by decide) _ 2 ([xy,xy].map iv) rfl K7.out ⟨_,0,none⟩ 1 1 [iv p] rfl rfl (cell_one_new _ _ _) (one_one _ rfl) (by decide) (by decide) K5.out ?_;intro v' w5 hown1 hgrow1 _ hat;obtain⟨g6,cap6,rfl,_,_⟩:=own_capE hown1 (by decide);have HH:=zH (KG.out _ _ hown1 hgrow1 hat);clear hown1 hgrow1 hat;have g2:w5.cell? ⟨hb,2,none⟩=some (.slice (some ⟨w2.heap.size,0,none⟩) 2 2):=(by rw[zC HH.out.1];rfl);have g3:w5.frozen? ⟨hb,2,none⟩=false:=zF HH.out.1 2)
     go_meet
     exact⟨_,by rw[HP1.out];exact HH.out.2⟩
   case rest =>
    obtain⟨pv,hH⟩:=hcut
    have c2:wc.cell? ⟨hb,2,none⟩=some pv:=by rw[zC hH.out.box];rfl
    have hl1:ps1.length≤3:=by rw[HP1.out];cases z<;>simp
    have FIN:Hid (∀(pv':Value) (wr:World),HdAt B r hb l any bad unt w kd dm e16 e4 pv' (.slice none 0 0) ps2 l3 bad3 unt wr→HdAt B r hb l any bad unt w kd dm e16 e4 pv' (.slice none 0 0) ps2 l3 bad3 unt wr∧dm≤3∧ps2.length=2+dm % 2+dm / 2∧(bad3=false→bad2=false∧ExtP true xy l2 dm ps2 l3)∧l3.length≤l2.length):=by
     intro pv' wr h
     obtain⟨hdm,hz,hy,hp,hq⟩:=HD.out
     have e2:ps2=precsOf xy b2:=by
      rw[HP2.out,HP1.out]
      unfold precsOf
      rw[hz,hy,hp,hq]
      simp
     refine⟨h,hdm3,?_,fun hbad=>⟨?_,?_⟩,h3.out.len⟩
     ·rw[e2,hdm]
      unfold precsOf
      have:b2 % 2=0∨b2 % 2=1:=by omega
      have:b2 / 2 % 2=0∨b2 / 2 % 2=1:=by omega
      rcases ‹b2 % 2=0∨b2 % 2=1› with h|h<;>rcases this with h'|h'<;>simp[h,h']<;>omega
     ·cases hb2:bad2 with
      | false=>rfl
      | true=>rw[h3.out.bad hb2] at hbad;cases hbad
     ·have:=h3.out.fine hbad
      have e3:(UInt8.ofNat b2).toNat=b2:=by simp;omega
      unfold ExtP
      rw[if_pos rfl]
      exact⟨UInt8.ofNat b2,this,by rw[e3,hdm],by rw[e3,e2]⟩
    go_upto_if 55 with fail
    cases y with
    | false =>
     go_wp2_with fail
     go_meet
     exact⟨dm,pv,ps2,l3,bad3,FIN.out _ _ (by rw[HP2.out];simpa using hH.out)⟩
    | true =>
     have hsz:w.heap.size+1≤wc.heap.size:=by have:=hH.out.hge;have:=(zG hH.out.box).1;omega
     have K5:Hid (w.heap.size+1≤(wc.alloc (.cells #[iv q] 3)).heap.size):=by
      show _≤(wc.heap.push _).size
      rw[Array.size_push];omega
     have K3:Hid (ps1.length+1≤maxLen):=by show _≤_;unfold maxLen;omega
     have K4:Hid ((ps1.length+1)*8≤140737488355328):=by show _≤_;omega
     have K7:Hid ((wc.alloc (.cells #[iv q] 3)).ownsRow (w.heap.size+1) 3 1 pv ps1.length (ps1.map iv)):=hH.out.own.alloc _
     have KG:Hid (∀(v':Value) (w5:World),w5.ownsRow (w.heap.size+1) 3 1 v' (ps1.length+1) (ps1.map iv++[iv q])→(wc.alloc (.cells #[iv q] 3)).grownBy w5 pv.ownBlock→(v'.ownBlock=pv.ownBlock∨v'.ownBlock=some (wc.alloc (.cells #[iv q] 3)).heap.size)→_):=fun v' w5 o5 g5 a5=>hH.out.grow hr hB (p:=(q:Int)) (by omega) hl1 g5 o5 a5
     clear hsz
     go_wp2_with (at_builtin;refine wpList_append_own_at _ rfl _ _ 77 rfl (w.heap.size+1) 3 i0 (.int .i64 0) 1 8 Tryz.underlying77 hi0 hz0 hz1 hz2 rfl (by decide) _ ps1.length (ps1.map iv) rfl K7.out ⟨_,0,none⟩ 1 1 [iv q] rfl rfl (cell_one_new _ _ _) (one_one _ rfl) K3.out K4.out K5.out ?_;intro v' w5 hown1 hgrow1 _ hat;obtain⟨g6,cap6,rfl,_,_⟩:=own_capE hown1 (Nat.succ_pos _);have HH:=zH (KG.out _ _ hown1 hgrow1 hat);clear hown1 hgrow1 hat;have g2:w5.cell? ⟨hb,2,none⟩=some pv:=(by rw[zC HH.out.1];rfl);have g3:w5.frozen? ⟨hb,2,none⟩=false:=zF HH.out.1 2)
     go_meet
     exact⟨dm,_,ps2,l3,bad3,FIN.out _ _ (by rw[HP2.out];simp only[if_true];exact HH.out.2)⟩
 case rest =>
  obtain⟨dm,pv,ps,l3,bad3,hB1⟩:=hcut
  have hdm3:=hB1.out.2.1
  have H109:Hid (∀l bad unt w,RIn (· < B) r w l any bad unt→Calls Tryz.prog 109 #[.pointer (some ⟨r,0,none⟩)] w fun e w'=>∃(z:Nat) (l':List UInt8) (bad':Bool),e=.returned (.int .u64 z)∧Hid (NumOf (· < B) r l any bad unt w z l' bad' w')):=fun l bad unt w h=>numOf h
  go_upto_if 66 with fail
  go_cut [] from 67 to 91 (fun wr=>∃(l4:List UInt8) (bad4 unt4:Bool),Hid (HdAt B r hb l any bad unt w kd dm e16 e4 pv (.slice none 0 0) ps l4 bad4 unt4 wr∧(bad4=false→unt4=false→bad3=false∧unt=false∧(any=false→SizeP e2 l3 l4))∧l4.length≤l3.length))
  case first =>
   cases e2 with
   | false =>
    go_wp2_with fail
    go_meet
    exact⟨l3,bad3,unt,hB1.out.1,fun h h2=>⟨h,h2,fun _=>by simp[SizeP]⟩,Nat.le_refl _⟩
   | true =>
    have C9:=zH (H109.out _ _ _ _ hB1.out.1.st.inn)
    go_upto_region 13 with (go_at_call 109;refine C9.out.mono ?_;rintro e w4 ⟨z,l4,bad4,rfl,h4⟩)
    have hz:=h4.out.lt
    have HC:=zH (hB1.out.1.step hr (w2:=w4) (l2:=l4) (bad2:=bad4) (unt2:=unt) h4.out.st)
    have f3:=HC.out.st.inn.fz 3
    have c3:=HC.out.st.inn.c3
    have b34:bad4=false→bad3=false:=fun h=>by
     cases hb3:bad3 with
     | false=>rfl
     | true=>rw[h4.out.st.bad hb3] at h;cases h
    have B34:=zH b34
    clear b34
    go_upto_if 70 with fail
    go_cut [] from 71 to 73 (fun wr=>∃unt4:Bool,Hid (HdAt B r hb l any bad unt w kd dm e16 e4 pv (.slice none 0 0) ps l4 bad4 unt4 wr∧(unt4=false→unt=false)))
    case first =>
     by_cases hg:4294967296 < z
     ·go_wp2_with fail
      go_meet
      exact⟨true,HC.out.step hr ((St.refl HC.out.st.inn).setUnt true (fun _=>rfl) rfl),fun h=>by cases h⟩
     ·go_wp2_with fail
      go_meet
      exact⟨unt,HC.out,fun h=>h⟩
    case rest =>
     obtain⟨unt4,hU⟩:=hcut
     obtain⟨v0,hv0,c0⟩:=hU.out.1.st.inn.c0
     have c1:=hU.out.1.st.inn.c1
     have c2:=hU.out.1.st.inn.c2
     have f2:=hU.out.1.st.inn.fz 2
     obtain⟨n4,hn4⟩:∃n4,n4=l4.length:=⟨_,rfl⟩
     obtain⟨_,a4,cp4,rfl,hcp4,_,_⟩:=hv0
     rw[←hn4] at c0 hcp4
     have HN4:=zH hn4
     have hle:Hid (l4.length≤l3.length):=h4.out.st.len
     clear hn4
     have RES:Hid (∀(bd:Bool) (wr:World),HdAt B r hb l any bad unt w kd dm e16 e4 pv (.slice none 0 0) ps l4 bd unt4 wr→(bd=false→bad4=false∧(any=false→z≤n4))→HdAt B r hb l any bad unt w kd dm e16 e4 pv (.slice none 0 0) ps l4 bd unt4 wr∧(bd=false→unt4=false→bad3=false∧unt=false∧(any=false→SizeP true l3 l4))∧l4.length≤l3.length):=by
      intro bd wr h hbd
      refine⟨h,fun h1 h2=>⟨B34.out (hbd h1).1,hU.out.2 h2,fun h3=>?_⟩,hle.out⟩
      unfold SizeP
      rw[if_pos rfl]
      exact⟨z,h4.out.fine (hbd h1).1,by rw[←HN4.out];exact (hbd h1).2 h3⟩
     have hnb:n4≤9223372036854775807:=by
      have:=hU.out.1.st.len
      rw[←HN4.out] at this
      omega
     cases any with
     | true =>
      by_cases hgt:n4 < z
      ·go_wp2_with fail
       go_meet
       exact⟨l4,bad4,unt4,RES.out _ _ hU.out.1 (fun h=>⟨h,fun h=>by cases h⟩)⟩
      ·go_wp2_with fail
       go_meet
       exact⟨l4,bad4,unt4,RES.out _ _ hU.out.1 (fun h=>⟨h,fun h=>by cases h⟩)⟩
     | false =>
      by_cases hgt:n4 < z
      ·go_wp2_with fail
       go_meet
       exact⟨l4,true,unt4,RES.out _ _ (hU.out.1.step hr ((St.refl hU.out.1.st.inn).setBad rfl)) (fun h=>by cases h)⟩
      ·go_wp2_with fail
       go_meet
       exact⟨l4,bad4,unt4,RES.out _ _ hU.out.1 (fun h=>⟨h,fun _=>by omega⟩)⟩
  case rest =>
   obtain⟨l4,bad4,unt4,hC1⟩:=hcut
   obtain⟨pg,pc,hpv,hpg,hpc⟩:=own_capE hC1.out.1.own (by have:=hC1.out.1.len;omega)
   obtain⟨m,hm⟩:∃m,m=ps.length:=⟨_,rfl⟩
   rw[←hm] at hpv hpc
   have hm4:2≤m∧m≤4:=by have:=hC1.out.1.len;omega
   have HM:=zH hm
   subst hpv
   clear hm
   go_upto_if 94 with fail
   go_cut [] from 95 to 139 (fun wr=>∃(bx:Value) (gs:List G) (l5:List UInt8) (bad5 unt5:Bool),Hid (HdAt B r hb l any bad unt w kd dm e16 e4 (.slice (some ⟨pg,0,none⟩) m pc) bx ps l5 bad5 unt5 wr∧RowsAt (GAt 1) (fun b=>w.heap.size+1≤b) 4 wr bx gs∧(bad5=false→unt5=false→bad4=false∧unt4=false∧BoxP e1 ps.length l4 l5)∧l5.length≤l4.length))
   case first =>
    cases e1 with
    | false =>
     go_wp2_with fail
     go_meet
     exact⟨_,[],l4,bad4,unt4,hC1.out.1,RowsAt.nil,fun h h2=>⟨h,h2,by simp[BoxP]⟩,Nat.le_refl _⟩
    | true =>
     have c2:wc.cell? ⟨hb,2,none⟩=some (.slice (some ⟨pg,0,none⟩) m pc):=by rw[zC hC1.out.1.box];rfl
     have hnew:∀o,(wc.alloc o).cell? ⟨hb,2,none⟩=some (.slice (some ⟨pg,0,none⟩) m pc):=fun o=>(World.cell?_of_block (Below.heap_alloc wc o hb (zG hC1.out.1.box).1)).trans c2
     obtain⟨j0,hj0,jz0,jz1,jz2⟩:=info_parts info40
     have hmk:∀w,(Instr.makeSlice 24 (.int .i64 m) (.int .i64 m)).run Tryz.prog w=.ok (.slice (some ⟨w.heap.size,0,none⟩) m m) (w.alloc (.cells (zfl m) 40)):=by
      intro w
      have:=run_make (P:=Tryz.prog) w 24 40 j0 (.float .f64 0) Tryz.underlying24 hj0 jz0 .i64 .i64 m m (by omega) (Int.le_refl _) (by rw[jz2];omega) (by omega)
      rw[this,jz1,Nat.mul_one,Int.toNat_natCast,zfl_made]
     have hpne:=hC1.out.1.ne
     have hpg2:pg < wc.heap.size:=by
      have:=(hC1.out.1.own.lt pg rfl).2
      exact this
     have hbl:=(zG hC1.out.1.box).1
     have hge:=hC1.out.1.hge
     have BX0:Hid (∀g1 g2,(g1=wc.heap.size∧g2=wc.heap.size+1∨g1=wc.heap.size+1∧g2=wc.heap.size)→BxAt B r hb l any bad unt w kd dm e16 e4 (.slice (some ⟨pg,0,none⟩) m pc) ps l4 bad4 unt4 g1 g2 0 l4 bad4 unt4 ((wc.alloc (.cells (zfl m) 40)).alloc (.cells (zfl m) 40)).drew):=by
      intro g1 g2 hg
      have w0:((wc.alloc (.cells (zfl m) 40)).alloc (.cells (zfl m) 40)).drew.heap[wc.heap.size]?=some (.cells (zfl m) 40 (0,0)):=(Below.heap_alloc (wc.alloc (.cells (zfl m) 40)) _ _ (by show _ < (wc.heap.push _).size;rw[Array.size_push];omega)).trans (zN _ _)
      have w1:((wc.alloc (.cells (zfl m) 40)).alloc (.cells (zfl m) 40)).drew.heap[wc.heap.size+1]?=some (.cells (zfl m) 40 (0,0)):=by
       have:=zN (wc.alloc (.cells (zfl m) 40)) (.cells (zfl m) 40)
       rw[show (wc.alloc (.cells (zfl m) 40)).heap.size=wc.heap.size+1 from by show (wc.heap.push _).size=_;rw[Array.size_push]] at this
       exact this
      have hz:∃xs:List Nat,xs.length=ps.length∧Obj.cells (zfl m) 40 (0,0)=.cells (xs.map flv).toArray 40 (0,0):=⟨List.replicate m 0,by rw[List.length_replicate,HM.out],rfl⟩
      obtain⟨zs,z1,z2⟩:=hz
      refine⟨hC1.out.1.kept hr hB ((((Fr.refl _ _).alloc _).alloc _).drew) (fun b hb _=>(Below.heap_alloc (wc.alloc (.cells (zfl m) 40)) _ _ (by show _ < (wc.heap.push _).size;rw[Array.size_push];omega)).trans (Below.heap_alloc wc _ _ hb)),⟨zs,z1,?_⟩,⟨zs,z1,?_⟩,⟨by omega,by omega,fun e=>?_⟩,⟨by omega,by omega,fun e=>?_⟩,by omega,fun e1 e2=>⟨e1,e2,[],.nil _,rfl,fun d hd=>by cases hd⟩,Nat.le_refl _⟩
      ·rw[←z2];rcases hg with ⟨rfl,rfl⟩|⟨rfl,rfl⟩<;>assumption
      ·rw[←z2];rcases hg with ⟨rfl,rfl⟩|⟨rfl,rfl⟩<;>assumption
      ·have e:some pg=some g1:=e
       injection e with e;omega
      ·have e:some pg=some g2:=e
       injection e with e;omega
     go_upto_region 18 with fail
     go_cut [9,10] from 95 to 102 (fun lv hv wr=>∃g1 g2,lv=.slice (some ⟨g1,0,none⟩) m m∧hv=.slice (some ⟨g2,0,none⟩) m m∧Hid (BxAt B r hb l any bad unt w kd dm e16 e4 (.slice (some ⟨pg,0,none⟩) m pc) ps l4 bad4 unt4 g1 g2 0 l4 bad4 unt4 wr))
     case first =>
      go_region
      ·go_wp2_with fail
       go_meet
       exact⟨_,_,rfl,rfl,BX0.out _ _ (.inl ⟨rfl,rfl⟩)⟩
      ·go_wp2_with fail
       go_meet
       exact⟨_,_,rfl,rfl,BX0.out _ _ (.inr ⟨rfl,rfl⟩)⟩
     case rest =>
      obtain⟨g1,g2,hl9,hl10,hX0⟩:=hcut
      subst hl9 hl10
      have H110:Hid (∀l bad unt w (o:Int),-9007199254740992≤o→o≤9007199254740992→RIn (· < B) r w l any bad unt→Calls Tryz.prog 110 #[.pointer (some ⟨r,0,none⟩),.int .i64 o] w (StepPost (· < B) r l any bad unt w o)):=fun l bad unt w o h1 h2 h=>step110 _ r l any bad unt w o h1 h2 h
      have H111:Hid (∀l bad unt w (n p:Int),-9007199254740992≤n→n≤9007199254740992 → -8≤p∧p≤7→RIn (· < B) r w l any bad unt→Calls Tryz.prog 111 #[.pointer (some ⟨r,0,none⟩),.int .i64 n,.int .i64 p] w (ValPost (· < B) r l any bad unt w n p)):=fun l bad unt w n p h1 h2 h3 h=>val111 _ r l any bad unt w n p h1 h2 (by omega) (by omega) h
      have HPB:=zH hX0.out.hd.bd
      have c2:wc.cell? ⟨hb,2,none⟩=some (.slice (some ⟨pg,0,none⟩) m pc):=by rw[zC hX0.out.hd.box];rfl
      go_wp2_with fail
      go_loopw [106] (fun iv wr=>∃(k:Nat) (lk:List UInt8) (badk untk:Bool),k≤m∧iv=.int .i64 k∧Hid (BxAt B r hb l any bad unt w kd dm e16 e4 (.slice (some ⟨pg,0,none⟩) m pc) ps l4 bad4 unt4 g1 g2 (2*k) lk badk untk wr)) (fun iv _=>m - (intOf iv).toNat)
      case atStart=>exact⟨0,l4,bad4,unt4,Nat.zero_le _,rfl,hX0.out⟩
      case round =>
       obtain⟨k,lk,badk,untk,hk,rfl,hrel⟩:=hrel
       by_cases hlt:k < m
       ·have hkp:k < ps.length:=by rw[←HM.out];exact hlt
        obtain⟨p,hp⟩:∃p,p=ps[k]:=⟨_,rfl⟩
        have p1:wr.cell? ⟨pg,k,none⟩=some (.int .i64 p):=by
         have own:=hrel.out.hd.own
         rw[←HM.out] at own
         have:=own.cellAt k (by omega)
         rw[this,List.getElem?_map]
         simp[hkp,hp,iv]
        have hpb:=HPB.out _ (List.getElem_mem hkp)
        rw[←hp] at hpb
        have C0:=zH (H110.out _ _ _ _ 0 (by decide) (by decide) hrel.out.hd.st.inn)
        clear hp
        go_upto_region 23 with (go_at_call 110;refine C0.out.mono ?_;rintro e wa ⟨n,la,ba,ua,rfl,ha⟩)
        obtain⟨n0,n1,sa,za⟩:=ha.out
        have R1:=zH (hrel.out.read hr (by omega) ⟨n0,n1⟩ sa za)
        have C1:=zH (H111.out _ _ _ _ n p n0 n1 hpb R1.out.hd.st.inn)
        have N01:=zH (⟨n0,n1⟩:_∧_)
        have s1:∀(x:Nat) ub wb,Hid (St (Eq r) (· < B) r la any ba ua wa la ba ub wb∧(ub=false→0≤p→x=vl n p.toNat))→Hid (BxAt B r hb l any bad unt w kd dm e16 e4 (.slice (some ⟨pg,0,none⟩) m pc) ps l4 bad4 unt4 g1 g2 (2*k+1) la ba ub wb):=fun x ub wb h=>R1.out.step hr h.out.1 (.inl rfl)
        have S1:=zH s1
        clear s1 ha n0 n1 sa za
        have hst:=st_fl
        go_upto_region 24 with (go_at_call 111;refine C1.out.mono ?_;rintro e wb ⟨x,ub,rfl,hb1⟩;have R2:=S1.out _ _ _ hb1;obtain⟨xs,x1,x2⟩:=R2.out.lo;have k1:k < xs.length:=(by rw[x1,←HM.out];exact hlt);obtain⟨x0,d1⟩:=fl_cell x2 k1;have d2:wb.frozen? ⟨g1,k,none⟩=false:=zF x2 k;clear x1 x2 k1)
        have R3:=zH (R2.out.set hr hB g1 (.inl rfl) k x)
        obtain⟨wd,hwd⟩:∃wd,wd=wb.setCell ⟨g1,k,none⟩ (.float .f64 x):=⟨_,rfl⟩
        rw[←hwd]
        have R3:Hid (BxAt B r hb l any bad unt w kd dm e16 e4 (.slice (some ⟨pg,0,none⟩) m pc) ps l4 bad4 unt4 g1 g2 (2*k+1) la ba ub wd):=by rw[hwd];exact R3.out
        clear hwd d1 d2 C1 R1 S1
        have C2:=zH (H110.out _ _ _ _ n N01.out.1 N01.out.2 R3.out.hd.st.inn)
        have s2:∀(n2:Int) lb bb uc we,Hid (-9007199254740992≤n2∧n2≤9007199254740992∧St (Eq r) (· < B) r la any ba ub wd lb bb uc we∧(bb=false→uc=false→∃z:Nat,UV la z lb∧n2=n+unz z))→Hid (BxAt B r hb l any bad unt w kd dm e16 e4 (.slice (some ⟨pg,0,none⟩) m pc) ps l4 bad4 unt4 g1 g2 (2*k+1+1) lb bb uc we):=fun n2 lb bb uc we h=>R3.out.read hr N01.out ⟨h.out.1,h.out.2.1⟩ h.out.2.2.1 h.out.2.2.2
        have S2:=zH s2
        have s3:∀(n2:Int) lb bb uc we (x:Nat) ud wf,Hid (-9007199254740992≤n2∧n2≤9007199254740992∧St (Eq r) (· < B) r la any ba ub wd lb bb uc we∧(bb=false→uc=false→∃z:Nat,UV la z lb∧n2=n+unz z))→Hid (St (Eq r) (· < B) r lb any bb uc we lb bb ud wf∧(ud=false→0≤p→x=vl n2 p.toNat))→Hid (BxAt B r hb l any bad unt w kd dm e16 e4 (.slice (some ⟨pg,0,none⟩) m pc) ps l4 bad4 unt4 g1 g2 (2*k+1+1) lb bb ud wf):=fun n2 lb bb uc we x ud wf h h2=>(S2.out _ _ _ _ _ h).out.step hr h2.out.1 (.inl rfl)
        have S3:=zH s3
        clear s2 s3
        go_upto_region 25 with first|(go_at_call 110;refine C2.out.mono ?_;rintro e we ⟨n2,lb,bb,uc,rfl,hb2⟩)|(go_at_call 111;refine (H111.out _ _ _ _ n2 p hb2.out.1 hb2.out.2.1 hpb (S2.out _ _ _ _ _ hb2).out.hd.st.inn).mono ?_;rintro e wf ⟨y,ud,rfl,hb3⟩;have R4:=S3.out _ _ _ _ _ _ _ _ hb2 hb3;obtain⟨xs,x1,x2⟩:=R4.out.hi;have k1:k < xs.length:=(by rw[x1,←HM.out];exact hlt);obtain⟨x0,d1⟩:=fl_cell x2 k1;have d2:wf.frozen? ⟨g2,k,none⟩=false:=zF x2 k;clear x1 x2 k1)
        have R5:=zH (R4.out.set hr hB g2 (.inr rfl) k y)
        clear R4 R3 R2 S2 S3 d1 d2 hb1 hb2 hb3
        go_wp2_with fail
        go_roundw
        case rel=>exact⟨k+1,_,_,_,by omega,by go_num,R5.out⟩
        case measure=>simp[intOf];omega
       ·obtain rfl:k=m:=by omega
        have cd:wr.cell? ⟨hb,1,none⟩=some (.int .i64 dm):=by rw[zC hrel.out.hd.box];rfl
        have cx:wr.cell? ⟨hb,5,none⟩=some (.slice none 0 0):=by rw[zC hrel.out.hd.box];rfl
        have fx:wr.frozen? ⟨hb,5,none⟩=false:=zF hrel.out.hd.box 5
        have hbn:hb < wr.heap.size:=(zG hrel.out.hd.box).1
        obtain⟨hF1,gs,hF2⟩:=hrel.out.fin hr hB hdm3 HM.out (w3:=(wr.setCell ⟨hb,5,none⟩ (.slice (some ⟨wr.heap.size,0,none⟩) 2 2)).alloc (bxo dm g1 g2 k)) rfl
        have HF:=zH (⟨hF1,hF2⟩:_∧_)
        have HK:=zH (show (badk=false→untk=false→bad4=false∧unt4=false∧BoxP true ps.length l4 lk)∧lk.length≤l4.length from ⟨fun e1 e2=>by
         obtain⟨o1,o2,ds,o3,o4,o5⟩:=hrel.out.ok e1 e2
         exact⟨o1,o2,by unfold BoxP;rw[if_pos rfl];exact⟨ds,o3,by rw[←HM.out];exact o4,o5⟩⟩,hrel.out.len⟩)
        clear hF1 hF2 hrel
        go_wp2_with fail
        go_meet
        exact⟨_,gs,lk,badk,untk,HF.out.1,HF.out.2,HK.out.1,HK.out.2⟩
   case rest =>
    obtain⟨bx,gs,l5,bad5,unt5,hD1⟩:=hcut
    have hbox:=hD1.out.1.box
    have k0:wc.cell? ⟨hb,0,none⟩=some (.int .i64 kd):=by rw[zC hbox];rfl
    have k1:wc.cell? ⟨hb,1,none⟩=some (.int .i64 dm):=by rw[zC hbox];rfl
    have k2:wc.cell? ⟨hb,2,none⟩=some (.slice (some ⟨pg,0,none⟩) m pc):=by rw[zC hbox];rfl
    have k3:wc.cell? ⟨hb,3,none⟩=some (.bool e16):=by rw[zC hbox];rfl
    have k4:wc.cell? ⟨hb,4,none⟩=some (.bool e4):=by rw[zC hbox];rfl
    have k5:wc.cell? ⟨hb,5,none⟩=some bx:=by rw[zC hbox];rfl
    have c3:=hD1.out.1.st.inn.c3
    have f3:=hD1.out.1.st.inn.fz 3
    clear hbox
    obtain⟨n16,hn16⟩:∃n,n=((b1:Int) != 16):=⟨_,rfl⟩
    have HN16:=zH hn16
    have tn16:=hn16.symm
    clear hn16
    obtain⟨T,hT⟩:∃T,T=(e16 && (n16 || decide ((kd:Int) < 1) || decide (7 < (kd:Int)))):=⟨_,rfl⟩
    have HT:=zH hT
    clear hT
    go_upto_region 27 with fail
    go_cut [155] from 140 to 155 (fun tv wr=>tv=.bool T∧wr=wc)
    case first =>
     cases e16 with
     | false =>
      go_wp2_with fail
      go_meet
      exact⟨by rw[HT.out];rfl,rfl⟩
     | true =>
      cases n16 with
      | false =>
       go_wp2_with fail
       all_goals
        go_meet
        exact⟨by rw[HT.out];simp[*],rfl⟩
      | true =>
       go_wp2_with fail
       go_meet
       exact⟨by rw[HT.out];simp,rfl⟩
    case rest =>
     obtain⟨hu155,hwc⟩:=hcut
     subst hu155 hwc
     have r0:wc.cell? ⟨w.heap.size,0,none⟩=some (.int .i64 0):=by rw[zC hD1.out.1.res];rfl
     have r1:wc.cell? ⟨w.heap.size,1,none⟩=some (.int .i64 0):=by rw[zC hD1.out.1.res];rfl
     have r2:wc.cell? ⟨w.heap.size,2,none⟩=some (.slice none 0 0):=by rw[zC hD1.out.1.res];rfl
     have r3:wc.cell? ⟨w.heap.size,3,none⟩=some (.bool false):=by rw[zC hD1.out.1.res];rfl
     have r4:wc.cell? ⟨w.heap.size,4,none⟩=some (.bool false):=by rw[zC hD1.out.1.res];rfl
     have r5:wc.cell? ⟨w.heap.size,5,none⟩=some (.slice none 0 0):=by rw[zC hD1.out.1.res];rfl
     have rf:∀i,wc.frozen? ⟨w.heap.size,i,none⟩=false:=fun i=>zF hD1.out.1.res i
     obtain⟨ba,bc,hbx,_,_⟩:=hD1.out.2.1.at
     obtain⟨bn,hbn⟩:∃bn,bn=gs.length:=⟨_,rfl⟩
     rw[←hbn] at hbx
     subst hbx
     clear hbn
     have n1:w.heap.size≠hb:=by have:=hD1.out.1.hge;omega
     have n2:w.heap.size≠r:=by omega
     have n3:hb≠r:=by have:=hD1.out.1.hge;omega
     have FIN:Hid (∀(u:Bool) (wz:World),HdAt B r hb l any bad unt w kd dm e16 e4 (.slice (some ⟨pg,0,none⟩) m pc) (.slice ba bn bc) ps l5 bad5 u wz→RowsAt (GAt 1) (fun b=>w.heap.size+1≤b) 4 wz (.slice ba bn bc) gs→(u=false→unt5=false∧T=false)→HeadPost B r l any bad unt w (.returned (.agg #[.int .i64 kd,.int .i64 dm,.slice (some ⟨pg,0,none⟩) m pc,.bool e16,.bool e4,.slice ba bn bc])) ((((((wz.setCell ⟨w.heap.size,0,none⟩ (.int .i64 kd)).setCell ⟨w.heap.size,1,none⟩ (.int .i64 dm)).setCell ⟨w.heap.size,2,none⟩ (.slice (some ⟨pg,0,none⟩) m pc)).setCell ⟨w.heap.size,3,none⟩ (.bool e16)).setCell ⟨w.heap.size,4,none⟩ (.bool e4)).setCell ⟨w.heap.size,5,none⟩ (.slice ba bn bc))):=by
      intro u wz hz hgz hu
      obtain⟨hkd,he4,he16,he8,he2,he1⟩:=HE.out
      obtain⟨-,hDg,hDs,hDl⟩:=hD1.out
      obtain⟨-,hCs,hCl⟩:=hC1.out
      obtain⟨-,-,hBp,hBs,hBl⟩:=hB1.out
      refine hz.post hr hB HM.out hkd15 hdm3 hBp hgz (fr6 _ _ _ _ _ _ _ _) (mt:=b1) (xy:=xy) ?_ ?_
      ·intro hb5 hu5
       obtain⟨s1,s2,s3⟩:=hDs hb5 (hu hu5).1
       obtain⟨s4,s5,s6⟩:=hCs s1 s2
       have:=(H12.out (hBs s4).1).2
       have h9:l.length=l2.length+2:=by rw[this];simp
       omega
      ·intro hb5 hu5
       obtain⟨s1,s2,s3⟩:=hDs hb5 (hu hu5).1
       obtain⟨s4,s5,s6⟩:=hCs s1 s2
       obtain⟨s7,s8⟩:=hBs s4
       obtain⟨-,s9⟩:=H12.out s7
       refine⟨fun ha=>⟨UInt8.ofNat b0,UInt8.ofNat b1,l2,l3,l4,s9,?_,?_,?_,?_,?_,?_⟩,he16,he4,fun he=>?_⟩
       ·rw[hkd];simp
       ·rw[HXY.out];congr 2;simp;omega
       ·simp;omega
       ·rw[show (UInt8.ofNat b1).toNat=b1 by simp;omega,←he8];exact s8
       ·rw[show (UInt8.ofNat b1).toNat=b1 by simp;omega,←he2];exact s6 ha
       ·rw[show (UInt8.ofNat b1).toNat=b1 by simp;omega,←he1];exact s3
       ·have hT:=(hu hu5).2
        rw[HT.out,he] at hT
        have h16:=HN16.out
        cases hn:n16 with
        | true=>rw[hn] at hT;simp at hT
        | false =>
         rw[hn] at hT h16
         simp at hT h16
         omega
     cases T with
     | true =>
      have hz:=FIN.out true _ (hD1.out.1.step hr ((St.refl hD1.out.1.st.inn).setUnt true (fun _=>rfl) rfl)) (hD1.out.2.1.kept (GAt.kp 1) (fun b hb _=>Below.heap_setCell _ _ _ _ (by show b≠r;omega))) (fun h=>by cases h)
      have HZ:=zH hz
      clear hz FIN
      go_wp2_with fail
      exact bodyPost_ret (v:=.agg #[.int .i64 kd,.int .i64 dm,.slice (some ⟨pg,0,none⟩) m pc,.bool e16,.bool e4,.slice ba bn bc]) (by simp[results,Tryz.f47,go_sem,r0,r1,r2,r3,r4,r5]) rfl HZ.out
     | false =>
      have hz:=FIN.out unt5 wc hD1.out.1 hD1.out.2.1 (fun h=>⟨h,rfl⟩)
      have HZ:=zH hz
      clear hz FIN
      go_wp2_with fail
      exact bodyPost_ret (v:=.agg #[.int .i64 kd,.int .i64 dm,.slice (some ⟨pg,0,none⟩) m pc,.bool e16,.bool e4,.slice ba bn bc]) (by simp[results,Tryz.f47,go_sem,r0,r1,r2,r3,r4,r5]) rfl HZ.out
open Go.RowKit
theorem kid38_3(w:World):Calls Tryz.prog 38 #[.int .i64 3] w fun e w'=>e=.returned (.int .i64 2)∧w'=w:=by
 go_enter Tryz.func38,Tryz.ntmps38
 go_wp2_with fail
 go_ret
 exact⟨rfl,rfl⟩
theorem kid38_4(w:World):Calls Tryz.prog 38 #[.int .i64 4] w fun e w'=>e=.returned (.int .i64 1)∧w'=w:=by
 go_enter Tryz.func38,Tryz.ntmps38
 go_wp2_with fail
 go_ret
 exact⟨rfl,rfl⟩
theorem kid38_5(w:World):Calls Tryz.prog 38 #[.int .i64 5] w fun e w'=>e=.returned (.int .i64 2)∧w'=w:=by
 go_enter Tryz.func38,Tryz.ntmps38
 go_wp2_with fail
 go_ret
 exact⟨rfl,rfl⟩
theorem kid38_6(w:World):Calls Tryz.prog 38 #[.int .i64 6] w fun e w'=>e=.returned (.int .i64 3)∧w'=w:=by
 go_enter Tryz.func38,Tryz.ntmps38
 go_wp2_with fail
 go_ret
 exact⟨rfl,rfl⟩
def IntsAt (P:Nat→Prop) (w:World) (v:Value) (xs:List Int):Prop:=CellsAt P w v xs.length 1 (xs.map iv)
def BodyPost (B r lb D kind:Nat) (ids:Bool) (l:List UInt8) (any bad unt:Bool) (w:World) (ps Q0:List Int) (dm:Nat) (e:Ending) (w':World):Prop :=
 ∃(dm':Nat) (nv kv lv:Value),e=.returned (.tuple #[.agg #[.int .i64 kind,.int .i64 dm',nv,kv],lv]) ∧
  Hid (∃(g:G) (Q:List Int) (l1:List UInt8) (bad1 unt1:Bool) (is:List Int),St (RL r lb) (· < B) r l any bad unt w l1 bad1 unt1 w'∧RowI lb w' Q∧Q.length=ps.length∧(∀q∈Q,-9007199254740992≤q∧q≤9007199254740992) ∧
   GAt D (fun b=>w.heap.size≤b) w' [.int .i64 kind,.int .i64 dm',nv,kv] g∧IntsAt (fun b=>w.heap.size≤b) w' lv is ∧
   (bad1=false→unt1=false→(∀p∈ps,0≤p)→1≤kind→kind≤6→∃s,BodyQ 4096 kind ids ps Q0 l s is Q l1∧g=toG kind dm s))
structure BdAt (B r lb:Nat) (l:List UInt8) (any bad unt:Bool) (w:World) (hdc gc:Array Value) (ps:List Int) (Q:List Int) (l1:List UInt8) (bad1 unt1:Bool) (w1:World):Prop where
 st:St (RL r lb) (· < B) r l any bad unt w l1 bad1 unt1 w1
 row:RowI lb w1 Q
 qlen:Q.length=ps.length
 qb:∀q∈Q,-9007199254740992≤q∧q≤9007199254740992
 hd:w1.heap[w.heap.size]?=some (.cells hdc 89 (0,0))
 g:w1.heap[w.heap.size+1]?=some (.cells gc 27 (0,0))
 rw:r < w.heap.size
 lw:lb < w.heap.size
 bw:B≤w.heap.size
section
variable {B r lb:Nat}{l:List UInt8}{any bad unt:Bool}{w:World}{hdc gc:Array Value}{ps:List Int}{Q Q2:List Int}{l1 l2:List UInt8}{bad1 unt1 bad2 unt2:Bool}{w1 w2:World}
theorem BdAt.size(h:BdAt B r lb l any bad unt w hdc gc ps Q l1 bad1 unt1 w1):w.heap.size+2≤w1.heap.size:=(zG h.g).1
theorem BdAt.step(h:BdAt B r lb l any bad unt w hdc gc ps Q l1 bad1 unt1 w1)(s:St (RL r lb) (· < B) r l1 any bad1 unt1 w1 l2 bad2 unt2 w2)(hrow:RowI lb w2 Q2)(hl:Q2.length=ps.length)(hb:∀q∈Q2,-9007199254740992≤q∧q≤9007199254740992):BdAt B r lb l any bad unt w hdc gc ps Q2 l2 bad2 unt2 w2:=by
 have hs:=h.size
 have h1:=h.rw
 have h2:=h.lw
 refine⟨h.st.trans s,hrow,hl,hb,(s.fr.block _ (by omega) ?_).trans h.hd,(s.fr.block _ (by omega) ?_).trans h.g,h1,h2,h.bw⟩
 ·rintro (e|e)<;>omega
 ·rintro (e|e)<;>omega
theorem BdAt.stepR(h:BdAt B r lb l any bad unt w hdc gc ps Q l1 bad1 unt1 w1)(hne:r≠lb)(s:St (Eq r) (· < B) r l1 any bad1 unt1 w1 l2 bad2 unt2 w2):BdAt B r lb l any bad unt w hdc gc ps Q l2 bad2 unt2 w2 :=
 h.step (s.weak (fun _ e=>.inl e.symm)) (h.row.fr s.fr hne) h.qlen h.qb
theorem BdAt.kept(h:BdAt B r lb l any bad unt w hdc gc ps Q l1 bad1 unt1 w1)(f:Fr (fun b=>w.heap.size+2≤b) w1 w2):BdAt B r lb l any bad unt w hdc gc ps Q l1 bad1 unt1 w2:=by
 have hs:=h.size
 have h1:=h.rw
 have h2:=h.lw
 have h3:=h.bw
 exact⟨⟨h.st.inn.other (f.block r (by omega) (by omega)) (fun b hb=>f.block b (by omega) (by omega)),h.st.fr.transNew f (fun b hb=>.inl (by omega)),h.st.bad,h.st.unt,h.st.len⟩,h.row.fr f (by omega),h.qlen,h.qb,(f.block _ (by omega) (by omega)).trans h.hd,(f.block _ (by omega) (by omega)).trans h.g,h1,h2,h3⟩
theorem BdAt.setG(h:BdAt B r lb l any bad unt w hdc gc ps Q l1 bad1 unt1 w1)(i:Nat)(v:Value):BdAt B r lb l any bad unt w hdc (gc.setIfInBounds i v) ps Q l1 bad1 unt1 (w1.setCell ⟨w.heap.size+1,i,none⟩ v):=by
 have hs:=h.size
 have h1:=h.rw
 have h2:=h.lw
 have h3:=h.bw
 have f:Fr (fun b=>b=w.heap.size+1) w1 (w1.setCell ⟨w.heap.size+1,i,none⟩ v):=(Fr.refl _ _).setR _ rfl
 exact⟨⟨h.st.inn.other (f.block r (by omega) (by omega)) (fun b hb=>f.block b (by omega) (by omega)),h.st.fr.transNew f (fun b hb=>.inl (by omega)),h.st.bad,h.st.unt,h.st.len⟩,h.row.fr f (by omega),h.qlen,h.qb,(f.block _ (by omega) (by omega)).trans h.hd,Lib.heap_setCell_same h.g v,h1,h2,h3⟩
theorem BdAt.precs(h:BdAt B r lb l any bad unt w hdc gc ps Q l1 bad1 unt1 w1){v:Value}{xs:List Int}(hp:PrecsAt (fun b=>¬RL r lb b) w v xs):PrecsAt (fun b=>¬RL r lb b) w1 v xs :=
 CellsAt.kept hp (fun b hb hl=>h.st.fr.block b hl hb)
theorem BdAt.start(hB:B≤w.heap.size)(hR:RIn (· < B) r w l any bad unt)(hL:RowI lb w Q)(hQ:Q.length=ps.length)(hq:∀q∈Q,-9007199254740992≤q∧q≤9007199254740992):BdAt B r lb l any bad unt w hdc gc ps Q l bad unt ((w.alloc (.cells hdc 89)).alloc (.cells gc 27)):=by
 have f:ZF w ((w.alloc (.cells hdc 89)).alloc (.cells gc 27)):=((Fr.refl _ _).alloc _).alloc _
 have p1:(w.alloc (.cells hdc 89)).heap.size=w.heap.size+1:=by show (w.heap.push _).size=_;rw[Array.size_push]
 have n1:=zN (w.alloc (.cells hdc 89)) (.cells gc 27)
 rw[p1] at n1
 exact⟨⟨hR.fr f (by simp) (by simp) hB,f.weak (by simp),fun e=>e,fun e=>e,Nat.le_refl _⟩,hL.fr f (by simp),hQ,hq,(Below.heap_alloc (w.alloc (.cells hdc 89)) _ _ (by omega)).trans (zN _ _),n1,hR.lt,(zG hL).1,hB⟩
end
theorem slice_shape{w:World}{B n sz:Nat}{e:TypeId}{v:Value}{cs:List Value}(h:w.ownsRow B e sz v n cs):∃a c,v=.slice a n c:=by
 rcases h.2 with ⟨h1,h2⟩|⟨g,cap,cur,h1,_⟩
 ·exact⟨none,0,by rw[h1,h2]⟩
 ·exact⟨_,_,h1⟩
def hdv (hk dm pb po pc m:Nat) (em ix bx:Value):Array Value:=#[.int .i64 hk,.int .i64 dm,.slice (some ⟨pb,po,none⟩) m pc,em,ix,bx]
theorem hd_cells{w1:World}{b hk dm pb po pc m:Nat}{em ix bx:Value}(h:w1.heap[b]?=some (.cells (hdv hk dm pb po pc m em ix bx) 89 (0,0))):
  w1.cell? ⟨b,0,none⟩=some (.int .i64 hk)∧w1.cell? ⟨b,1,none⟩=some (.int .i64 dm)∧w1.cell? ⟨b,2,none⟩=some (.slice (some ⟨pb,po,none⟩) m pc)∧w1.cell? ⟨b,3,none⟩=some em∧w1.cell? ⟨b,4,none⟩=some ix∧w1.cell? ⟨b,5,none⟩=some bx:=by
 refine⟨?_,?_,?_,?_,?_,?_⟩<;>(rw[zC h];rfl)
theorem g_cells{w1:World}{b:Nat}{v0 v1 v2 v3:Value}(h:w1.heap[b]?=some (.cells #[v0,v1,v2,v3] 27 (0,0))):
  w1.cell? ⟨b,0,none⟩=some v0∧w1.cell? ⟨b,1,none⟩=some v1∧w1.cell? ⟨b,2,none⟩=some v2∧w1.cell? ⟨b,3,none⟩=some v3∧∀i,w1.frozen? ⟨b,i,none⟩=false:=by
 refine⟨?_,?_,?_,?_,fun i=>zF h i⟩<;>(rw[zC h];rfl)
def BodyAt1 (B r lb:Nat) (l:List UInt8) (any bad unt:Bool) (w:World) (hdc gc:Array Value) (ps:List Int) (RP:List (Int × Int)→List Int→List UInt8→Prop) (v:Value) (w2:World):Prop :=
 ∃(Q:List Int) (l1:List UInt8) (bad1 unt1:Bool),BdAt B r lb l any bad unt w hdc gc ps Q l1 bad1 unt1 w2∧∃xs:List Nat,xs.length≤30000∧w2.ownsRow (w.heap.size+2) 40 1 v xs.length (xs.map flv)∧(bad1=false→unt1=false→∃ys,RP ys Q l1∧((∀p∈ps,0≤p)→xs=ys.map flp))
theorem BodyAt1.g{B r lb:Nat}{l:List UInt8}{any bad unt:Bool}{w:World}{hdc gc:Array Value}{ps:List Int}{RP:List (Int × Int)→List Int→List UInt8→Prop}{v:Value}{w2:World}(h:BodyAt1 B r lb l any bad unt w hdc gc ps RP v w2):w2.heap[w.heap.size+1]?=some (.cells gc 27 (0,0)):=by
 obtain⟨_,_,_,_,h1,_⟩:=h
 exact h1.g
theorem fr5(wz:World)(b:Nat)(v v0 v1 v2 v3:Value):Fr (Eq b) wz (((((wz.setCell ⟨b,2,none⟩ v).setCell ⟨b,0,none⟩ v0).setCell ⟨b,1,none⟩ v1).setCell ⟨b,2,none⟩ v2).setCell ⟨b,3,none⟩ v3) :=
 (((((Fr.refl _ _).setR _).setR _).setR _).setR _).setR _
theorem BodyAt1.post{B r lb:Nat}{l:List UInt8}{any bad unt:Bool}{w:World}{hdc gc:Array Value}{ps Q0:List Int}{RP:List (Int × Int)→List Int→List UInt8→Prop}{a t:Nat}{v:Option Addr}{w2 w3:World}{kind dm:Nat}{ids:Bool}(h:BodyAt1 B r lb l any bad unt w hdc gc ps RP (.slice v a t) w2)(f:Fr (Eq (w.heap.size+1)) w2 w3)(hk:kind≤2)(hd:dm≤3)
  (hz:∀(ys:List (Int × Int)) (Q:List Int) (l1:List UInt8),RP ys Q l1→BodyQ 4096 kind ids ps Q0 l (.one ys) [] Q l1) :
  BodyPost B r lb 1 kind ids l any bad unt w ps Q0 dm (.returned (.tuple #[.agg #[.int .i64 kind,.int .i64 dm,.slice v a t,.slice none 0 0],.slice none 0 0])) w3:=by
 obtain⟨Q,l1,bad1,unt1,h1,xs,x1,x2,x3⟩:=h
 have hs:=h1.size
 have e1:=h1.rw
 have e2:=h1.lw
 have e3:=h1.bw
 refine⟨dm,_,_,_,rfl,.mk kind dm xs [],Q,l1,bad1,unt1,[],⟨h1.st.inn.other (f.block r (by omega) (by omega)) (fun b hb=>f.block b (by omega) (by omega)),h1.st.fr.transNew f (fun b hb=>.inl (by omega)),h1.st.bad,h1.st.unt,h1.st.len⟩,h1.row.fr f (by omega),h1.qlen,h1.qb,?_,?_,fun b1 b2 hp _ _=>?_⟩
 ·have c1:=(CellsAt.of_own x2).mono (Q:=fun b=>w.heap.size+2≤b) (by decide) (fun b hb _=>(x2.lt b hb.symm).1)
  have c2:=(c1.kept (w':=w3) (fun b hb hl=>f.block b hl (by omega))).mono (Q:=fun b=>w.heap.size≤b) (by decide) (fun b hb _=>by omega)
  exact⟨_,_,rfl,c2,RowsAt.nil,x1,Nat.zero_le _,Int.natCast_nonneg _,by show (kind:Int)≤15;omega,Int.natCast_nonneg _,by show (dm:Int)≤3;omega⟩
 ·exact⟨rfl,none,0,rfl,Nat.le_refl _,fun _=>⟨rfl,rfl⟩,fun h=>by simp at h⟩
 ·obtain⟨ys,y1,y2⟩:=x3 b1 b2
  exact⟨.one ys,hz ys Q l1 y1,by rw[y2 hp];rfl⟩
theorem body_pt(B r lb:Nat)(ids:Bool)(l:List UInt8)(any bad unt:Bool)(w:World)(hk dm:Nat)(em ix bx:Value)(pb po pc m:Nat)(ps Q0:List Int)(hB:B≤w.heap.size)(hlB:B≤lb)(hne:r≠lb)(hdm:dm≤3)(hm:m=ps.length)
  (hR:RIn (· < B) r w l any bad unt) (hL:RowI lb w Q0) (hQ:Q0.length=ps.length) (hq:∀q∈Q0,-9007199254740992≤q∧q≤9007199254740992) (hps:ps.length≤4) (hps2:2≤ps.length) (hpb:∀p∈ps,-8≤p∧p≤7)
  (hpv:PrecsAt (fun b=>¬RL r lb b) w (.slice (some ⟨pb,po,none⟩) m pc) ps) :
  Calls Tryz.prog 48 #[.pointer (some ⟨r,0,none⟩),.int .i64 1,.agg #[.int .i64 hk,.int .i64 dm,.slice (some ⟨pb,po,none⟩) m pc,em,ix,bx],.bool ids,.slice (some ⟨lb,0,none⟩) m m] w (BodyPost B r lb 1 1 ids l any bad unt w ps Q0 dm):=by
 obtain⟨w0,hw0⟩:∃w0,w0=(w.alloc (.cells (hdv hk dm pb po pc m em ix bx) 89)).alloc (.cells #[.int .i64 0,.int .i64 0,.slice none 0 0,.slice none 0 0] 27):=⟨_,rfl⟩
 have H0:Hid (BdAt B r lb l any bad unt w (hdv hk dm pb po pc m em ix bx) #[.int .i64 0,.int .i64 0,.slice none 0 0,.slice none 0 0] ps Q0 l bad unt w0):=by rw[hw0];exact BdAt.start hB hR hL hQ hq
 have H1:=zH ((H0.out.setG 0 (.int .i64 1)).setG 1 (.int .i64 dm) |>.setG 2 (.slice none 0 0) |>.setG 3 (.slice none 0 0))
 have HM:=zH hm
 have HPV:=zH hpv
 have HQ:=zH hQ
 obtain⟨w1,hw1⟩:∃w1,w1=(((w0.setCell ⟨w.heap.size+1,0,none⟩ (.int .i64 1)).setCell ⟨w.heap.size+1,1,none⟩ (.int .i64 dm)).setCell ⟨w.heap.size+1,2,none⟩ (.slice none 0 0)).setCell ⟨w.heap.size+1,3,none⟩ (.slice none 0 0):=⟨_,rfl⟩
 rw[←hw1] at H1
 have HW0:=zH hw0
 have HW1:=zH hw1
 have h0:w0.cell? ⟨w.heap.size,1,none⟩=some (.int .i64 dm):=by rw[zC H0.out.hd];rfl
 have g0:w0.cell? ⟨w.heap.size+1,0,none⟩=some (.int .i64 0):=by rw[zC H0.out.g];rfl
 have g1:w0.cell? ⟨w.heap.size+1,1,none⟩=some (.int .i64 0):=by rw[zC H0.out.g];rfl
 have g2:w0.cell? ⟨w.heap.size+1,2,none⟩=some (.slice none 0 0):=by rw[zC H0.out.g];rfl
 have g3:w0.cell? ⟨w.heap.size+1,3,none⟩=some (.slice none 0 0):=by rw[zC H0.out.g];rfl
 have gf:∀i,w0.frozen? ⟨w.heap.size+1,i,none⟩=false:=fun i=>zF H0.out.g i
 clear hm hw0 hw1 hpv hQ hR hL
 go_enter Tryz.func48,Tryz.ntmps48
 go_upto_region 1 with fail
 have e0:(w.alloc (.cells #[.int .i64 hk,.int .i64 dm,.slice (some ⟨pb,po,none⟩) m pc,em,ix,bx] 89)).alloc (.cells #[.int .i64 0,.int .i64 0,.slice none 0 0,.slice none 0 0] 27)=w0:=HW0.out.symm
 rw[e0]
 clear e0
 go_upto_region 3 with fail
 rw[←HW1.out]
 clear h0 g0 g1 g2 g3 gf
 obtain⟨d0,d1,d2,d3,d4,d5⟩:=hd_cells H1.out.hd
 obtain⟨g0,g1,g2,g3,gf⟩:=g_cells H1.out.g
 have C112:Hid (Calls Tryz.prog 112 #[.pointer (some ⟨r,0,none⟩),.int .i64 1,.agg #[.int .i64 hk,.int .i64 dm,.slice (some ⟨pb,po,none⟩) m pc,em,ix,bx],.slice (some ⟨lb,0,none⟩) m m] w1 (PlPost B r lb l any bad unt w1 ps Q0 1)):=by
  have hpv1:=H1.out.precs HPV.out
  rw[HM.out] at hpv1 ⊢
  exact places112 B r lb l any bad unt w1 1 (by omega) (.int .i64 hk) (.int .i64 dm) em ix bx pb po pc ps Q0 (by have:=H1.out.size;omega) hlB hne H1.out.st.inn H1.out.row HQ.out hq hps hps2 hpb hpv1
 have HB2:Hid (∀v w2,PlPost B r lb l any bad unt w1 ps Q0 1 (.returned v) w2→∃a t c,v=.slice a t c∧BodyAt1 B r lb l any bad unt w (hdv hk dm pb po pc m em ix bx) #[.int .i64 1,.int .i64 dm,.slice none 0 0,.slice none 0 0] ps (RowP ps Q0 1 l) v w2):=by
  rintro v w2 ⟨v',e,h⟩
  injection e with e
  subst e
  obtain⟨t,Q,l1,bad1,unt1,s1,s2,s3,s4,s5,xs,x1,x2,x3⟩:=h.out
  obtain⟨a,c,rfl⟩:=slice_shape x2
  exact⟨a,t,c,rfl,Q,l1,bad1,unt1,H1.out.step s1 s2 s3 s4,xs,by omega,by rw[x1];exact ownsRow_base x2 H1.out.size,x3⟩
 clear H0 HPV hq hpb
 go_upto_region 4 with (go_at_call 112;refine C112.out.mono ?_;rintro e w2 hp;obtain⟨v,rfl,-⟩:=id hp;obtain⟨na,nt,nc,rfl,hp2⟩:=HB2.out _ _ hp;clear hp;have HP2:=zH hp2;clear hp2;obtain⟨g0,g1,g2,g3,gf⟩:=g_cells HP2.out.g)
 have HF:=zH (HP2.out.post (kind:=1) (ids:=ids) (fr5 w2 (w.heap.size+1) (.slice na nt nc) (.int .i64 1) (.int .i64 dm) (.slice na nt nc) (.slice none 0 0)) (by omega) hdm (fun ys Q l1 h=>⟨h,rfl⟩))
 clear HP2
 go_wp2_with fail
 exact bodyPost_ret (v:=.tuple #[.agg #[.int .i64 1,.int .i64 dm,.slice na nt nc,.slice none 0 0],.slice none 0 0]) (by simp[results,Tryz.f48,go_sem,g0,g1,g2,g3]) rfl HF.out
theorem body_ln(B r lb:Nat)(ids:Bool)(l:List UInt8)(any bad unt:Bool)(w:World)(hk dm:Nat)(em ix bx:Value)(pb po pc m:Nat)(ps Q0:List Int)(hB:B≤w.heap.size)(hlB:B≤lb)(hne:r≠lb)(hdm:dm≤3)(hm:m=ps.length)
  (hR:RIn (· < B) r w l any bad unt) (hL:RowI lb w Q0) (hQ:Q0.length=ps.length) (hq:∀q∈Q0,-9007199254740992≤q∧q≤9007199254740992) (hps:ps.length≤4) (hps2:2≤ps.length) (hpb:∀p∈ps,-8≤p∧p≤7)
  (hpv:PrecsAt (fun b=>¬RL r lb b) w (.slice (some ⟨pb,po,none⟩) m pc) ps) :
  Calls Tryz.prog 48 #[.pointer (some ⟨r,0,none⟩),.int .i64 2,.agg #[.int .i64 hk,.int .i64 dm,.slice (some ⟨pb,po,none⟩) m pc,em,ix,bx],.bool ids,.slice (some ⟨lb,0,none⟩) m m] w (BodyPost B r lb 1 2 ids l any bad unt w ps Q0 dm):=by
 obtain⟨w0,hw0⟩:∃w0,w0=(w.alloc (.cells (hdv hk dm pb po pc m em ix bx) 89)).alloc (.cells #[.int .i64 0,.int .i64 0,.slice none 0 0,.slice none 0 0] 27):=⟨_,rfl⟩
 have H0:Hid (BdAt B r lb l any bad unt w (hdv hk dm pb po pc m em ix bx) #[.int .i64 0,.int .i64 0,.slice none 0 0,.slice none 0 0] ps Q0 l bad unt w0):=by rw[hw0];exact BdAt.start hB hR hL hQ hq
 have H1:=zH ((H0.out.setG 0 (.int .i64 2)).setG 1 (.int .i64 dm) |>.setG 2 (.slice none 0 0) |>.setG 3 (.slice none 0 0))
 have HM:=zH hm
 have HPV:=zH hpv
 have HQ:=zH hQ
 obtain⟨w1,hw1⟩:∃w1,w1=(((w0.setCell ⟨w.heap.size+1,0,none⟩ (.int .i64 2)).setCell ⟨w.heap.size+1,1,none⟩ (.int .i64 dm)).setCell ⟨w.heap.size+1,2,none⟩ (.slice none 0 0)).setCell ⟨w.heap.size+1,3,none⟩ (.slice none 0 0):=⟨_,rfl⟩
 rw[←hw1] at H1
 have HW0:=zH hw0
 have HW1:=zH hw1
 have h0:w0.cell? ⟨w.heap.size,1,none⟩=some (.int .i64 dm):=by rw[zC H0.out.hd];rfl
 have g0:w0.cell? ⟨w.heap.size+1,0,none⟩=some (.int .i64 0):=by rw[zC H0.out.g];rfl
 have g1:w0.cell? ⟨w.heap.size+1,1,none⟩=some (.int .i64 0):=by rw[zC H0.out.g];rfl
 have g2:w0.cell? ⟨w.heap.size+1,2,none⟩=some (.slice none 0 0):=by rw[zC H0.out.g];rfl
 have g3:w0.cell? ⟨w.heap.size+1,3,none⟩=some (.slice none 0 0):=by rw[zC H0.out.g];rfl
 have gf:∀i,w0.frozen? ⟨w.heap.size+1,i,none⟩=false:=fun i=>zF H0.out.g i
 clear hm hw0 hw1 hpv hQ hR hL
 go_enter Tryz.func48,Tryz.ntmps48
 go_upto_region 1 with fail
 have e0:(w.alloc (.cells #[.int .i64 hk,.int .i64 dm,.slice (some ⟨pb,po,none⟩) m pc,em,ix,bx] 89)).alloc (.cells #[.int .i64 0,.int .i64 0,.slice none 0 0,.slice none 0 0] 27)=w0:=HW0.out.symm
 rw[e0]
 clear e0
 go_upto_region 6 with fail
 rw[←HW1.out]
 clear h0 g0 g1 g2 g3 gf
 have H2:Hid (BdAt B r lb l any bad unt w (hdv hk dm pb po pc m em ix bx) #[.int .i64 2,.int .i64 dm,.slice none 0 0,.slice none 0 0] ps Q0 l bad unt w1.drew):=H1.out.kept ((Fr.refl _ _).drew)
 have C113:Hid (Calls Tryz.prog 113 #[.pointer (some ⟨r,0,none⟩)] w1.drew (CountPost (· < B) r l any bad unt w1.drew)):=count113 _ r l any bad unt _ H2.out.st.inn
 have HN:Hid (∀(n:Nat) l1 bad1 unt1 wa,Hid (n≤4096∧St (Eq r) (· < B) r l any bad unt w1.drew l1 bad1 unt1 wa∧(bad1=false→unt1=false→UV l n l1))→BdAt B r lb l any bad unt w (hdv hk dm pb po pc m em ix bx) #[.int .i64 2,.int .i64 dm,.slice none 0 0,.slice none 0 0] ps Q0 l1 bad1 unt1 wa):=fun n l1 bad1 unt1 wa h=>H2.out.stepR hne h.out.2.1
 have C112:Hid (∀(n:Nat) l1 bad1 unt1 wa,Hid (n≤4096∧St (Eq r) (· < B) r l any bad unt w1.drew l1 bad1 unt1 wa∧(bad1=false→unt1=false→UV l n l1))→Calls Tryz.prog 112 #[.pointer (some ⟨r,0,none⟩),.int .i64 n,.agg #[.int .i64 hk,.int .i64 dm,.slice (some ⟨pb,po,none⟩) m pc,em,ix,bx],.slice (some ⟨lb,0,none⟩) m m] wa (PlPost B r lb l1 any bad1 unt1 wa ps Q0 n)):=by
  intro n l1 bad1 unt1 wa h
  have hN:=HN.out n l1 bad1 unt1 wa h
  have hpv1:=hN.precs HPV.out
  rw[HM.out] at hpv1 ⊢
  exact places112 B r lb l1 any bad1 unt1 wa n h.out.1 (.int .i64 hk) (.int .i64 dm) em ix bx pb po pc ps Q0 (by have:=hN.size;omega) hlB hne hN.st.inn hN.row HQ.out hq hps hps2 hpb hpv1
 have HB2:Hid (∀(n:Nat) l1 bad1 unt1 wa,Hid (n≤4096∧St (Eq r) (· < B) r l any bad unt w1.drew l1 bad1 unt1 wa∧(bad1=false→unt1=false→UV l n l1))→∀v w2,PlPost B r lb l1 any bad1 unt1 wa ps Q0 n (.returned v) w2→∃a t c,v=.slice a t c∧BodyAt1 B r lb l any bad unt w (hdv hk dm pb po pc m em ix bx) #[.int .i64 2,.int .i64 dm,.slice none 0 0,.slice none 0 0] ps (LineP 4096 ps Q0 l) v w2):=by
  rintro n l1 bad1 unt1 wa h v w2 ⟨v',e,h2⟩
  injection e with e
  subst e
  have hN:=HN.out n l1 bad1 unt1 wa h
  obtain⟨t,Q,l2,bad2,unt2,s1,s2,s3,s4,s5,xs,x1,x2,x3⟩:=h2.out
  obtain⟨a,c,rfl⟩:=slice_shape x2
  have ht:t≤4096*4:=Nat.le_trans s5 (Nat.mul_le_mul h.out.1 hps)
  refine⟨a,t,c,rfl,Q,l2,bad2,unt2,hN.step s1 s2 s3 s4,xs,by omega,by rw[x1];exact ownsRow_base x2 hN.size,fun e1 e2=>?_⟩
  obtain⟨ys,y1,y2⟩:=x3 e1 e2
  have b1:bad1=false:=by
   cases hb:bad1 with
   | false=>rfl
   | true=>rw[s1.bad hb] at e1;cases e1
  have u1:unt1=false:=by
   cases hb:unt1 with
   | false=>rfl
   | true=>rw[s1.unt hb] at e2;cases e2
  exact⟨ys,⟨n,l1,h.out.1,h.out.2.2 b1 u1,y1⟩,y2⟩
 clear H0 HPV hq hpb
 go_cut [] from 30 to 36 (fun wr=>∃na nt nc w2,Hid (BodyAt1 B r lb l any bad unt w (hdv hk dm pb po pc m em ix bx) #[.int .i64 2,.int .i64 dm,.slice none 0 0,.slice none 0 0] ps (LineP 4096 ps Q0 l) (.slice na nt nc) w2)∧wr=w2.setCell ⟨w.heap.size+1,2,none⟩ (.slice na nt nc))
 case first =>
  obtain⟨d0,d1,d2,d3,d4,d5⟩:=hd_cells H2.out.hd
  go_region_with (first|(go_at_call 113;refine C113.out.mono ?_;rintro e wa ⟨n,l1,bad1,unt1,rfl,h1⟩;obtain⟨d0,d1,d2,d3,d4,d5⟩:=hd_cells (HN.out _ _ _ _ _ h1).hd)|(go_at_call 112;refine (C112.out _ _ _ _ _ h1).mono ?_;rintro e w2 hp;obtain⟨v,rfl,-⟩:=id hp;obtain⟨na,nt,nc,rfl,hp2⟩:=HB2.out _ _ _ _ _ h1 _ _ hp;clear hp;have HP2:=zH hp2;clear hp2;obtain⟨g0,g1,g2,g3,gf⟩:=g_cells HP2.out.g))
  all_goals (go_wp2_with fail;go_meet;exact⟨na,nt,nc,w2,HP2.out,rfl⟩)
 case rest =>
  obtain⟨na,nt,nc,w2,HP2,hwc⟩:=hcut
  subst hwc
  obtain⟨g0,g1,g2,g3,gf⟩:=g_cells HP2.out.g
  have HF:=zH (HP2.out.post (kind:=2) (ids:=ids) (fr5 w2 (w.heap.size+1) (.slice na nt nc) (.int .i64 2) (.int .i64 dm) (.slice na nt nc) (.slice none 0 0)) (by omega) hdm (fun ys Q l1 h=>⟨h,rfl⟩))
  clear HP2
  go_wp2_with fail
  exact bodyPost_ret (v:=.tuple #[.agg #[.int .i64 2,.int .i64 dm,.slice na nt nc,.slice none 0 0],.slice none 0 0]) (by simp[results,Tryz.f48,go_sem,g0,g1,g2,g3]) rfl HF.out
end Go.Proofs.YtnjjgbcmjnfijaaGreatDoor
