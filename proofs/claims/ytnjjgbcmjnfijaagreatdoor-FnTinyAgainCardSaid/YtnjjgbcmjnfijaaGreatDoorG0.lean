/- What memory holds while tiny bytes are read and written: frames, slices, geometries as trees. No condition. -/
import Derived.Test.YtnjjgbcmjnfijaaGreatDoorProg
import Derived.WalkKit
import Derived.WalkSpells
import Derived.WalkLawsBesides
import Derived.Lib.Hide
import Derived.Deep.DeepCutAuto
import Derived.Laws.OwnMore
import Derived.Laws.Rows
import Derived.Laws.Tables
import Derived.OwnWalk
namespace Go.Proofs.YtnjjgbcmjnfijaaGreatDoor
open Go.RowKit
theorem zH{p:Prop}(h:p):Hid p:=Lib.hid h
theorem zC{w:World}{b:Nat}{cs:Array Value}{T:TypeId}{fr:Nat×Nat}(hb:w.heap[b]?=some (.cells cs T fr))(j:Nat):w.cell? ⟨b,j,none⟩=cs[j]?:=Lib.cell_of_heap hb j
theorem zF{w:World}{b:Nat}{cs:Array Value}{T:TypeId}(hb:w.heap[b]?=some (.cells cs T (0,0)))(j:Nat):w.frozen? ⟨b,j,none⟩=false:=Lib.frozen_of_heap hb j
theorem zG{α:Type}{xs:Array α}{i:Nat}{a:α}(h:xs[i]?=some a):∃h:i < xs.size,xs[i]=a:=Array.getElem?_eq_some_iff.1 h
theorem zL{α:Type}{xs:List α}{i:Nat}{a:α}(h:xs[i]?=some a):∃h:i < xs.length,xs[i]=a:=List.getElem?_eq_some_iff.1 h
theorem zN(w:World)(o:Obj):(w.alloc o).heap[w.heap.size]?=some o:=heap_alloc_new w o
structure Fr (R:Nat→Prop) (w w':World):Prop where
 os:w'.os=w.os
 tape:w'.tape=w.tape
 output:w'.output=w.output
 size:w.heap.size≤w'.heap.size
 block:∀k,k < w.heap.size→¬R k→w'.heap[k]?=w.heap[k]?
abbrev ZF:=Fr (fun _=>False)
namespace Fr
variable {R S:Nat→Prop}{w w1 w2:World}
theorem refl(R:Nat→Prop)(w:World):Fr R w w:=⟨rfl,rfl,rfl,Nat.le_refl _,fun _ _ _=>rfl⟩
theorem trans(h:Fr R w w1)(k:Fr R w1 w2):Fr R w w2 :=
 ⟨k.os.trans h.os,k.tape.trans h.tape,k.output.trans h.output,Nat.le_trans h.size k.size,fun i hi hn=>(k.block i (Nat.lt_of_lt_of_le hi h.size) hn).trans (h.block i hi hn)⟩
theorem weak(h:Fr R w w1)(hs:∀k,R k→S k):Fr S w w1:=⟨h.os,h.tape,h.output,h.size,fun i hi hn=>h.block i hi (fun e=>hn (hs i e))⟩
theorem drew(h:Fr R w w1):Fr R w w1.drew:=⟨h.os,h.tape,h.output,h.size,h.block⟩
theorem drewN(h:Fr R w w1)(n:Nat):Fr R w (w1.drewN n):=⟨h.os,h.tape,h.output,h.size,h.block⟩
theorem alloc(h:Fr R w w1)(o:Obj):Fr R w (w1.alloc o) :=
 ⟨h.os,h.tape,h.output,Nat.le_trans h.size (by show _≤(w1.heap.push o).size;simp),fun i hi hn=>(Below.heap_alloc w1 o i (Nat.lt_of_lt_of_le hi h.size)).trans (h.block i hi hn)⟩
theorem setNew(h:Fr R w w1){a:Addr}(ha:w.heap.size≤a.block)(u:Value):Fr R w (w1.setCell a u) :=
 ⟨h.os,h.tape,h.output,Nat.le_trans h.size (by simp[World.setCell]),fun i hi hn=>(Below.heap_setCell w1 a u i (by omega)).trans (h.block i hi hn)⟩
theorem setR{a:Addr}(h:Fr R w w1)(u:Value)(hb:R a.block:=by rfl):Fr R w (w1.setCell a u) :=
 ⟨h.os,h.tape,h.output,Nat.le_trans h.size (by simp[World.setCell]),fun i hi hn=>(Below.heap_setCell w1 _ u i (fun e=>hn (by rw[e];exact hb))).trans (h.block i hi hn)⟩
theorem grown{row:Option Nat}(h:Fr R w w1)(g:w1.grownBy w2 row)(hr:∀k,row=some k→w.heap.size≤k∨R k):Fr R w w2 :=
 ⟨g.os.trans h.os,g.tape.trans h.tape,g.output.trans h.output,Nat.le_trans h.size g.size,fun i hi hn=>(g.block i (Nat.lt_of_lt_of_le hi h.size) (fun e=>by
  rcases hr i e.symm with h1|h1
  ·omega
  ·exact hn h1)).trans (h.block i hi hn)⟩
theorem below(h:Fr R w w1){B:Nat}(hB:B≤w.heap.size)(hr:∀k,R k→B≤k):Below B w w1 :=
 ⟨h.os,h.tape,h.output,h.size,fun k hk=>h.block k (by omega) (fun e=>by have:=hr k e;omega)⟩
theorem transNew(h:Fr R w w1)(k:Fr S w1 w2)(hs:∀b,S b→w.heap.size≤b∨R b):Fr R w w2 :=
 ⟨k.os.trans h.os,k.tape.trans h.tape,k.output.trans h.output,Nat.le_trans h.size k.size,fun i hi hn=>(k.block i (Nat.lt_of_lt_of_le hi h.size) (fun e=>by
  rcases hs i e with hs|hs
  ·omega
  ·exact hn hs)).trans (h.block i hi hn)⟩
theorem cell(h:Fr R w w1){a:Addr}{v:Value}(hc:w.cell? a=some v)(hn:¬R a.block):w1.cell? a=some v :=
 (World.cell?_of_block (h.block a.block (World.block_lt_of_cell? w a hc) hn)).trans hc
end Fr
def CellsAt (P:Nat→Prop) (w:World) (v:Value) (n s:Nat) (cs:List Value):Prop :=
 cs.length=n*s∧∃a cap,v=.slice a n cap∧n≤cap∧(a=none→n=0∧cap=0)∧(0 < n→∃b o,a=some ⟨b,o,none⟩∧P b∧∀j u,cs[j]?=some u→w.cell? ⟨b,o+j,none⟩=some u)
theorem CellsAt.mono{P Q:Nat→Prop}{w:World}{v:Value}{n s:Nat}{cs:List Value}(h:CellsAt P w v n s cs)(hs:0 < s)(hq:∀b,P b→b < w.heap.size→Q b):CellsAt Q w v n s cs:=by
 obtain⟨h1,a,cap,rfl,h2,h3,h4⟩:=h
 refine⟨h1,a,cap,rfl,h2,h3,fun hn=>?_⟩
 obtain⟨b,o,rfl,hp,hc⟩:=h4 hn
 have hl:0 < cs.length:=by rw[h1];exact Nat.mul_pos hn hs
 have h0:=hc 0 cs[0] (by simp[hl])
 exact⟨b,o,rfl,hq b hp (World.block_lt_of_cell? w _ h0),hc⟩
theorem CellsAt.kept{P:Nat→Prop}{w w':World}{v:Value}{n s:Nat}{cs:List Value}(h:CellsAt P w v n s cs)(hk:∀b,P b→b < w.heap.size→w'.heap[b]?=w.heap[b]?):CellsAt P w' v n s cs:=by
 obtain⟨h1,a,cap,rfl,h2,h3,h4⟩:=h
 refine⟨h1,a,cap,rfl,h2,h3,fun hn=>?_⟩
 obtain⟨b,o,rfl,hp,hc⟩:=h4 hn
 refine⟨b,o,rfl,hp,fun j u hu=>?_⟩
 have h0:=hc j u hu
 rw[World.cell?_of_block (hk b hp (World.block_lt_of_cell? w _ h0))]
 exact h0
theorem CellsAt.of_own{w:World}{B:Nat}{e:TypeId}{s:Nat}{v:Value}{n:Nat}{xs:List Value}(h:w.ownsRow B e s v n xs):CellsAt (fun b=>some b=v.ownBlock) w v n s xs:=by
 obtain⟨h1,h2⟩:=h
 refine⟨h1,?_⟩
 rcases h2 with ⟨rfl,rfl⟩|⟨g,cap,cur,rfl,hb,hg,hnc,_,hs,ht⟩
 ·exact⟨none,0,rfl,Nat.le_refl _,fun _=>⟨rfl,rfl⟩,fun h=>by omega⟩
 ·refine⟨some ⟨g,0,none⟩,cap,rfl,hnc,fun h=>by simp at h,fun _=>⟨g,0,rfl,rfl,fun j u hu=>?_⟩⟩
  have hj:cur.toList[j]?=some u:=by
   rw[←ht] at hu
   have:=List.getElem?_take (l:=cur.toList) (i:=n*s) (j:=j)
   rw[this] at hu
   split at hu
   ·exact hu
   ·cases hu
  rw[Nat.zero_add,cell_of_row w g j cur e (0,0) hg]
  simpa using hj
def flv (x:Nat):Value:=.float .f64 x
def NumsAt (P:Nat→Prop) (w:World) (v:Value) (xs:List Nat):Prop:=CellsAt P w v xs.length 1 (xs.map flv)
inductive G where
 | mk (kind dim:Int) (nums:List Nat) (kids:List G)
def G.kind:G→Int | .mk k _ _ _=>k
def G.dim:G→Int | .mk _ d _ _=>d
def G.nums:G→List Nat | .mk _ _ x _=>x
def G.kids:G→List G | .mk _ _ _ c=>c
structure Kp {α:Type} (E:(Nat→Prop)→World→List Value→α→Prop):Prop where
 mono:∀{P Q:Nat→Prop}{w:World}{c:List Value}{x:α},(∀b,P b→b < w.heap.size→Q b)→E P w c x→E Q w c x
 kept:∀{P:Nat→Prop}{w w':World}{c:List Value}{x:α},(∀b,P b→b < w.heap.size→w'.heap[b]?=w.heap[b]?)→E P w c x→E P w' c x
def RowsAt {α:Type} (E:(Nat→Prop)→World→List Value→α→Prop) (P:Nat→Prop) (s:Nat) (w:World) (v:Value) (xs:List α):Prop :=
 ∃css:List (List Value),CellsAt P w v xs.length s css.flatten∧css.length=xs.length∧∀(i:Nat) (c:List Value) (x:α),css[i]?=some c→xs[i]?=some x→c.length=s∧E P w c x
theorem RowsAt.mono{α:Type}{E:(Nat→Prop)→World→List Value→α→Prop}(hE:Kp E){P Q:Nat→Prop}{s:Nat}{w:World}{v:Value}{xs:List α}(hs:0 < s)(hq:∀b,P b→b < w.heap.size→Q b)(h:RowsAt E P s w v xs):RowsAt E Q s w v xs:=by
 obtain⟨css,h1,h2,h3⟩:=h
 exact⟨css,h1.mono hs hq,h2,fun i c x hc hx=>⟨(h3 i c x hc hx).1,hE.mono hq (h3 i c x hc hx).2⟩⟩
theorem RowsAt.kept{α:Type}{E:(Nat→Prop)→World→List Value→α→Prop}(hE:Kp E){P:Nat→Prop}{s:Nat}{w w':World}{v:Value}{xs:List α}(hq:∀b,P b→b < w.heap.size→w'.heap[b]?=w.heap[b]?)(h:RowsAt E P s w v xs):RowsAt E P s w' v xs:=by
 obtain⟨css,h1,h2,h3⟩:=h
 exact⟨css,h1.kept hq,h2,fun i c x hc hx=>⟨(h3 i c x hc hx).1,hE.kept hq (h3 i c x hc hx).2⟩⟩
theorem RowsAt.nil{α:Type}{E:(Nat→Prop)→World→List Value→α→Prop}{P:Nat→Prop}{s:Nat}{w:World}:RowsAt E P s w (.slice none 0 0) ([]:List α) :=
 ⟨[],⟨by simp,none,0,rfl,Nat.le_refl _,fun _=>⟨rfl,rfl⟩,fun h=>by simp at h⟩,rfl,fun i c x hc=>by simp at hc⟩
theorem flatten_at:∀{css:List (List Value)}{s:Nat},(∀c∈css,c.length=s)→∀(i:Nat) (c:List Value),css[i]?=some c→∀(j:Nat),j < s→css.flatten[i*s+j]?=c[j]?
 | [],s,_,i,c,hc,j,hj=>by simp at hc
 | d :: css,s,h,0,c,hc,j,hj=>by
  simp at hc
  subst hc
  have hd:=h d (by simp)
  rw[Nat.zero_mul,Nat.zero_add,List.flatten_cons,List.getElem?_append_left (by omega)]
 | d :: css,s,h,i+1,c,hc,j,hj=>by
  have hd:=h d (by simp)
  rw[List.flatten_cons,List.getElem?_append_right (by rw[hd,Nat.succ_mul];omega),hd,show (i+1)*s+j - s=i*s+j by rw[Nat.succ_mul];omega]
  exact flatten_at (fun c hc=>h c (by simp[hc])) i c (by simpa using hc) j hj
theorem RowsAt.at{α:Type}{E:(Nat→Prop)→World→List Value→α→Prop}{P:Nat→Prop}{s:Nat}{w:World}{v:Value}{xs:List α}(h:RowsAt E P s w v xs):∃a cap,v=.slice a xs.length cap∧xs.length≤cap∧∀(i:Nat) (hi:i < xs.length),∃b o c,a=some ⟨b,o,none⟩∧P b∧c.length=s∧E P w c xs[i]∧∀j u,c[j]?=some u→w.cell? ⟨b,o+(i*s+j),none⟩=some u:=by
 obtain⟨css,⟨h1,a,cap,rfl,h2,_,h4⟩,hl,h3⟩:=h
 refine⟨a,cap,rfl,h2,fun i hi=>?_⟩
 obtain⟨b,o,rfl,hp,hc⟩:=h4 (by omega)
 have hci:css[i]?=some (css[i]'(by omega)):=by simp[show i < css.length by omega]
 have hxi:xs[i]?=some xs[i]:=by simp[hi]
 obtain⟨e1,e2⟩:=h3 i _ _ hci hxi
 refine⟨b,o,css[i]'(by omega),rfl,hp,e1,e2,fun j u hu=>hc _ _ ?_⟩
 rw[flatten_at (s:=s) (fun c hc=>?_) i _ hci j (by have:=(zL hu).1;omega)]
 ·exact hu
 ·obtain⟨k,hk⟩:=List.mem_iff_getElem?.1 hc
  have hk2:k < xs.length:=by have:=(zL hk).1;omega
  exact (h3 k c xs[k] hk (by simp[hk2])).1
def Off (B:Nat) (v:Value):Nat→Prop:=fun b=>B≤b∧some b≠v.ownBlock
def OwnRows {α:Type} (E:(Nat→Prop)→World→List Value→α→Prop) (B tid s:Nat) (w:World) (v:Value) (xs:List α):Prop :=
 ∃css:List (List Value),w.ownsRow B tid s v xs.length css.flatten∧css.length=xs.length∧∀(i:Nat) (c:List Value) (x:α),css[i]?=some c→xs[i]?=some x→c.length=s∧E (Off B v) w c x
theorem OwnRows.nil{α:Type}{E:(Nat→Prop)→World→List Value→α→Prop}{B tid s:Nat}{w:World}:OwnRows E B tid s w (.slice none 0 0) ([]:List α) :=
 ⟨[],World.ownsRow_nil _ _ _ _,rfl,fun i c x hc=>by simp at hc⟩
theorem OwnRows.own{α:Type}{E:(Nat→Prop)→World→List Value→α→Prop}{B tid s:Nat}{w:World}{v:Value}{xs:List α}(h:OwnRows E B tid s w v xs):∃cs,w.ownsRow B tid s v xs.length cs:=⟨_,h.choose_spec.1⟩
theorem ownsRow_keep{w w':World}{B:Nat}{e:TypeId}{sz:Nat}{v:Value}{n:Nat}{xs:List Value}(h:w.ownsRow B e sz v n xs)(hq:∀b,B≤b→b < w.heap.size→w'.heap[b]?=w.heap[b]?):w'.ownsRow B e sz v n xs:=by
 refine⟨h.1,h.2.imp id ?_⟩
 rintro ⟨g,cap,cur,h1,h2,h3,h4⟩
 exact⟨g,cap,cur,h1,h2,by rw[hq g h2 (zG h3).1];exact h3,h4⟩
theorem OwnRows.kept{α:Type}{E:(Nat→Prop)→World→List Value→α→Prop}(hE:Kp E){B tid s:Nat}{w w':World}{v:Value}{xs:List α}(hq:∀b,B≤b→b < w.heap.size→w'.heap[b]?=w.heap[b]?)(h:OwnRows E B tid s w v xs):OwnRows E B tid s w' v xs:=by
 obtain⟨css,h1,h2,h3⟩:=h
 exact⟨css,ownsRow_keep h1 hq,h2,fun i c x hc hx=>⟨(h3 i c x hc hx).1,hE.kept (fun b hb hl=>hq b hb.1 hl) (h3 i c x hc hx).2⟩⟩
theorem OwnRows.done{α:Type}{E:(Nat→Prop)→World→List Value→α→Prop}(hE:Kp E){B tid s:Nat}{w:World}{v:Value}{xs:List α}(hs:0 < s)(h:OwnRows E B tid s w v xs):RowsAt E (fun b=>B≤b) s w v xs:=by
 obtain⟨css,h1,h2,h3⟩:=h
 refine⟨css,(CellsAt.of_own h1).mono hs (fun b hb _=>?_),h2,fun i c x hc hx=>⟨(h3 i c x hc hx).1,hE.mono (fun b hb _=>hb.1) (h3 i c x hc hx).2⟩⟩
 exact (h1.lt b hb.symm).1
theorem OwnRows.snoc{α:Type}{E:(Nat→Prop)→World→List Value→α→Prop}(hE:Kp E){B tid s:Nat}{w w2:World}{v v':Value}{xs:List α}{x:α}{c:List Value}{css:List (List Value)}
  (h2:css.length=xs.length) (h3:∀(i:Nat) (c:List Value) (x:α),css[i]?=some c→xs[i]?=some x→c.length=s∧E (Off B v) w c x)
  (hc:c.length=s) (hx:E (Off B v) w c x) (own:w2.ownsRow B tid s v' (xs.length+1) (css.flatten++c)) (g:w.grownBy w2 v.ownBlock) (hat:v'.ownBlock=v.ownBlock∨v'.ownBlock=some w.heap.size) :
  OwnRows E B tid s w2 v' (xs++[x]):=by
 have key:∀(c:List Value) (x:α),E (Off B v) w c x→E (Off B v') w2 c x:=fun c x h=>by
  have h':E (Off B v) w2 c x:=hE.kept (fun b hb hl=>g.block b hl hb.2) h
  have h0:E (fun b=>Off B v b∧b < w.heap.size) w c x:=hE.mono (fun b hb hl=>⟨hb,hl⟩) h
  have h1:E (fun b=>Off B v b∧b < w.heap.size) w2 c x:=hE.kept (fun b hb hl=>g.block b hl hb.1.2) h0
  refine hE.mono (fun b hb _=>⟨hb.1.1,?_⟩) h1
  rcases hat with e|e
  ·rw[e];exact hb.1.2
  ·rw[e];intro e2;injection e2 with e2;have:=hb.2;omega
 refine⟨css++[c],by simpa using own,by simp[h2],fun i c' x' hc' hx'=>?_⟩
 rcases Nat.lt_or_ge i css.length with hi|hi
 ·rw[List.getElem?_append_left hi] at hc'
  rw[List.getElem?_append_left (by omega)] at hx'
  exact⟨(h3 i c' x' hc' hx').1,key _ _ (h3 i c' x' hc' hx').2⟩
 ·have hi2:i=css.length:=by
   have:=(zL hc').1
   simp at this
   omega
  subst hi2
  rw[List.getElem?_append_right (Nat.le_refl _)] at hc'
  rw[List.getElem?_append_right (by omega)] at hx'
  simp[h2] at hc' hx'
  subst hc' hx'
  exact⟨hc,key _ _ hx⟩
def GAt (d:Nat) (P:Nat→Prop) (w:World) (cs:List Value) (g:G):Prop :=
 match d with
 | 0=>False
 | d+1=>∃(nv kv:Value),cs=[.int .i64 g.kind,.int .i64 g.dim,nv,kv]∧NumsAt P w nv g.nums∧RowsAt (GAt d) P 4 w kv g.kids∧g.nums.length≤30000∧g.kids.length≤4096∧0≤g.kind∧g.kind≤15∧0≤g.dim∧g.dim≤3
theorem GAt.kp:∀d:Nat,Kp (GAt d)
 | 0=>⟨fun _ h=>h.elim,fun _ h=>h.elim⟩
 | d+1=>⟨fun hq h=>by
   obtain⟨nv,kv,h1,h2,h3,h4⟩:=h
   exact⟨nv,kv,h1,CellsAt.mono h2 (by decide) hq,RowsAt.mono (GAt.kp d) (by decide) hq h3,h4⟩,fun hq h=>by
   obtain⟨nv,kv,h1,h2,h3,h4⟩:=h
   exact⟨nv,kv,h1,CellsAt.kept h2 hq,RowsAt.kept (GAt.kp d) hq h3,h4⟩⟩
theorem GAt.deeper:∀{d:Nat}{P:Nat→Prop}{w:World}{cs:List Value}{g:G},GAt d P w cs g→GAt (d+1) P w cs g
 | 0,_,_,_,_,h=>h.elim
 | d+1,_,_,_,_,h=>by
  obtain⟨nv,kv,h1,h2,⟨css,h3,h4,h5⟩,h6⟩:=h
  exact⟨nv,kv,h1,h2,⟨css,h3,h4,fun i c k hc hk=>⟨(h5 i c k hc hk).1,(h5 i c k hc hk).2.deeper⟩⟩,h6⟩
theorem GAt.le{P:Nat→Prop}{w:World}{d d':Nat}{cs:List Value}{g:G}(h:GAt d P w cs g)(hd:d≤d'):GAt d' P w cs g:=by
 induction hd with
 | refl=>exact h
 | step _ ih=>exact ih.deeper
def BytesAt (P:Nat→Prop) (w:World) (v:Value) (l:List UInt8):Prop:=CellsAt P w v l.length 1 (l.map fun c=>.int .u8 c.toNat)
def RIn (P:Nat→Prop) (r:Nat) (w:World) (l:List UInt8) (any bad unt:Bool):Prop :=
 ∃v,w.heap[r]?=some (.cells #[v,.bool any,.bool bad,.bool unt] 52 (0,0))∧BytesAt P w v l∧¬P r
end Go.Proofs.YtnjjgbcmjnfijaaGreatDoor
