/- Bodies with parts, as the reference reads them. No condition. -/
import Derived.Test.YtnjjgbcmjnfijaaGreatDoorG8
import Derived.Deep.LoopGhost
import Derived.Deep.CutRange
import Derived.Deep.CutBlock
namespace Go.Proofs.YtnjjgbcmjnfijaaGreatDoor
set_option maxRecDepth 100000
set_option maxHeartbeats 8000000
open Go.RowKit
theorem h7w:∀z:Nat,z < 18446744073709551616→∀w,Calls Tryz.prog 7 #[.int .u64 z] w fun e w'=>∃d:Int,e=.returned (.int .i64 d)∧Hid (d=unz z ∧ -9223372036854775808≤d∧d < 9223372036854775808)∧w=w':=by
 intro z hz w
 refine (unz7 z (by omega) (by omega) w).mono ?_
 rintro e w' ⟨rfl,rfl⟩
 exact⟨_,rfl,⟨rfl,unz_bound (by omega) (by omega)⟩,rfl⟩
theorem info27:(Tryz.prog.info? 27).map (fun i=>(i.zero,i.size,i.bytes))=some (some (.agg #[.int .i64 0,.int .i64 0,.slice none 0 0,.slice none 0 0]),4,64):=by kernel_rfl
theorem info2:(Tryz.prog.info? 2).map (fun i=>(i.zero,i.size,i.bytes))=some (some (.int .i64 0),1,8):=by kernel_rfl
theorem cell4_new(w:World)(c0 c1 c2 c3:Value)(t:TypeId):∀j u,[c0,c1,c2,c3][j]?=some u→(w.alloc (.cells #[c0,c1,c2,c3] t)).cell? ((⟨w.heap.size,0,none⟩:Addr).add j)=some u:=by
 intro j u hj
 have h:=zN w (.cells #[c0,c1,c2,c3] t)
 have e:(⟨w.heap.size,0,none⟩:Addr).add j=⟨w.heap.size,0+j,none⟩:=by cases j<;>simp[Addr.add]
 rw[e,zC h,Nat.zero_add]
 simpa using hj
structure IdAt (B r lb:Nat) (l:List UInt8) (any bad unt:Bool) (w:World) (hdc gc:Array Value) (ps Q:List Int) (l0:List UInt8) (bad0 unt0:Bool) (i:Nat) (lv:Value) (is:List Int) (li:List UInt8) (badi:Bool) (wr:World):Prop where
 bd:BdAt B r lb l any bad unt w hdc gc ps Q li badi unt0 wr
 own:wr.ownsRow (w.heap.size+2) 2 1 lv is.length (is.map iv)
 len:is.length=i
 ok:badi=false→unt0=false→bad0=false∧RC l0 is li
def IdFacts (KD n:Nat) (ids:Bool) (l l0:List UInt8) (is:List Int) (lS:List UInt8):Prop:=UV l n l0∧(KD≠3→IdsP ids n l0 is lS)∧(KD=3→is=[]∧lS=l0)
def IdDone (KD n:Nat) (ids:Bool) (B r lb:Nat) (l:List UInt8) (any bad unt:Bool) (w:World) (hdc gc:Array Value) (ps Q:List Int) (l0:List UInt8) (bad0 unt0:Bool) (lv:Value) (wr:World):Prop :=
 ∃(is:List Int) (lS:List UInt8) (bad2:Bool),IdAt B r lb l any bad unt w hdc gc ps Q l0 bad0 unt0 is.length lv is lS bad2 wr∧(bad2=false→unt0=false→IdFacts KD n ids l l0 is lS)
theorem IdAt.start{B r lb:Nat}{l:List UInt8}{any bad unt:Bool}{w:World}{hdc gc:Array Value}{ps Q:List Int}{l0:List UInt8}{bad0 unt0:Bool}{wr:World}(h:BdAt B r lb l any bad unt w hdc gc ps Q l0 bad0 unt0 wr):IdAt B r lb l any bad unt w hdc gc ps Q l0 bad0 unt0 0 (.slice none 0 0) [] l0 bad0 wr :=
 ⟨h,World.ownsRow_nil _ _ _ _,rfl,fun h _=>⟨h,.nil _⟩⟩
theorem IdAt.next{B r lb:Nat}{l:List UInt8}{any bad unt:Bool}{w:World}{hdc gc:Array Value}{ps Q:List Int}{l0:List UInt8}{bad0 unt0:Bool}{i:Nat}{lv:Value}{is:List Int}{li:List UInt8}{badi:Bool}{wr:World}
  (h:IdAt B r lb l any bad unt w hdc gc ps Q l0 bad0 unt0 i lv is li badi wr) (hne:r≠lb) {z:Nat}{l2:List UInt8}{bad2:Bool}{wa:World} (k:NumOf (· < B) r li any badi unt0 wr z l2 bad2 wa) :
  wa.ownsRow (w.heap.size+2) 2 1 lv i (is.map iv)∧w.heap.size+2≤wa.heap.size∧∀(o:Obj) (w7:World) (v':Value),w7.ownsRow (w.heap.size+2) 2 1 v' (i+1) (is.map iv++[iv (unz z)])→(wa.alloc o).grownBy w7 lv.ownBlock→IdAt B r lb l any bad unt w hdc gc ps Q l0 bad0 unt0 (i+1) v' (is++[unz z]) l2 bad2 w7:=by
 have hrw:=h.bd.rw
 have o1:wa.ownsRow (w.heap.size+2) 2 1 lv i (is.map iv):=by
  have:=ownsRow_keep h.own (w':=wa) (fun b h1 h2=>k.st.fr.block b h2 (by omega))
  rw[h.len] at this
  exact this
 have ba:=h.bd.stepR hne k.st
 refine⟨o1,ba.size,fun o w7 v' p1 p2=>?_⟩
 have f7:Fr (fun b=>w.heap.size+2≤b) wa w7:=((Fr.refl _ wa).alloc o).grown p2 (fun b hb=>.inr (o1.lt b hb).1)
 refine⟨ba.kept f7,?_,by simp[h.len],fun e1 e2=>?_⟩
 ·rw[List.length_append,List.map_append,h.len];exact p1
 ·have hb:badi=false:=by
   cases hb:badi with
   | false=>rfl
   | true=>rw[k.st.bad hb] at e1;cases e1
  obtain⟨e3,e4⟩:=h.ok hb e2
  exact⟨e3,e4.snoc (k.fine e1) k.lt⟩
structure LpAt (KD Dk dm:Nat) (B r lb:Nat) (l:List UInt8) (any bad unt:Bool) (w:World) (hdc:Array Value) (dm':Nat) (ps Q0:List Int) (lS:List UInt8) (bad2 unt0:Bool) (lv:Value) (is:List Int) (wS:Nat) (i:Nat) (kv:Value) (kids:List G) (Q:List Int) (li:List UInt8) (badi unti:Bool) (wr:World):Prop where
 bd:BdAt B r lb l any bad unt w hdc #[.int .i64 KD,.int .i64 dm',.slice none 0 0,kv] ps Q li badi unti wr
 own:OwnRows (GAt Dk) wS 27 4 wr kv kids
 len:kids.length=i
 ws:w.heap.size+2≤wS∧wS≤wr.heap.size
 ids:IntsAt (fun b=>w.heap.size+2≤b∧b < wS) wr lv is
 ok:badi=false→unti=false→(∀p∈ps,0≤p)→KD≠0→bad2=false∧unt0=false∧∃ss,SqP (KidR KD ps) i Q0 lS ss Q li∧kids=ss.map (toG (kidK KD) dm)
structure KdAt (KD Dk dm:Nat) (B r lb:Nat) (l:List UInt8) (any bad unt:Bool) (w:World) (hdc gc:Array Value) (ps:List Int) (Q:List Int) (li:List UInt8) (badi unti:Bool) (wr:World) (kb:Nat) (c0 c1 c2 c3:Value) (x:G) (Q2:List Int) (l2:List UInt8) (bad2 unt2:Bool) (w5:World):Prop where
 bd:BdAt B r lb l any bad unt w hdc gc ps Q2 l2 bad2 unt2 w5
 fr:Fr (fun b=>RL r lb b∨wr.heap.size≤b) wr w5
 blk:w5.heap[kb]?=some (.cells #[c0,c1,c2,c3] 27 (0,0))
 ge:wr.heap.size≤kb
 gat:GAt Dk (fun b=>wr.heap.size≤b) w5 [c0,c1,c2,c3] x
 ok:bad2=false→unt2=false→badi=false∧unti=false∧((∀p∈ps,0≤p)→KD≠0→∃s,KidR KD ps Q li s Q2 l2∧x=toG (kidK KD) dm s)
theorem LpAt.next{KD Dk dm B r lb:Nat}{l:List UInt8}{any bad unt:Bool}{w:World}{hdc:Array Value}{dm':Nat}{ps Q0:List Int}{lS:List UInt8}{bad2 unt0:Bool}{lv:Value}{is:List Int}{wS i:Nat}{kv:Value}{kids:List G}{Q:List Int}{li:List UInt8}{badi unti:Bool}{wr:World}
  (h:LpAt KD Dk dm B r lb l any bad unt w hdc dm' ps Q0 lS bad2 unt0 lv is wS i kv kids Q li badi unti wr) {kb:Nat}{c0 c1 c2 c3:Value}{x:G}{Q2:List Int}{l2:List UInt8}{bad5 unt5:Bool}{w5:World}
  (k:KdAt KD Dk dm B r lb l any bad unt w hdc #[.int .i64 KD,.int .i64 dm',.slice none 0 0,kv] ps Q li badi unti wr kb c0 c1 c2 c3 x Q2 l2 bad5 unt5 w5) :
  ∃cs,w5.ownsRow wS 27 4 kv i cs∧∀(o:Obj) (w7:World) (v':Value),w7.ownsRow wS 27 4 v' (i+1) (cs++[c0,c1,c2,c3])→(w5.alloc o).grownBy w7 kv.ownBlock→(v'.ownBlock=kv.ownBlock∨v'.ownBlock=some (w5.alloc o).heap.size) →
   w7.heap[w.heap.size+1]?=some (.cells #[.int .i64 KD,.int .i64 dm',.slice none 0 0,kv] 27 (0,0))∧LpAt KD Dk dm B r lb l any bad unt w hdc dm' ps Q0 lS bad2 unt0 lv is wS (i+1) v' (kids++[x]) Q2 l2 bad5 unt5 (w7.setCell ⟨w.heap.size+1,3,none⟩ v'):=by
 have hE:=GAt.kp Dk
 have hrw:=h.bd.rw
 have hlw:=h.bd.lw
 have hw2:=h.ws
 have old:∀b,w.heap.size≤b→b < wr.heap.size→w5.heap[b]?=wr.heap[b]?:=fun b h1 h2=>k.fr.block b h2 (by rintro ((e|e)|e)<;>omega)
 obtain⟨css,o1,o2,o3⟩:=h.own.kept hE (w':=w5) (fun b h1 h2=>old b (by omega) h2)
 rw[h.len] at o1
 have hsz:=k.fr.size
 refine⟨css.flatten,o1,fun o w7 v' p1 p2 p3=>?_⟩
 have ha:(w5.alloc o).heap.size=w5.heap.size+1:=by show (w5.heap.push _).size=_;rw[Array.size_push]
 have hkv:∀b,kv.ownBlock=some b→wS≤b∧b < wr.heap.size:=fun b hb=>by
  have a1:=o1.lt b hb
  obtain⟨cs2,a2⟩:=h.own.own
  exact⟨a1.1,(a2.lt b hb).2⟩
 have f7:Fr (fun b=>wS≤b) w5 w7:=((Fr.refl _ w5).alloc o).grown p2 (fun b hb=>.inr (hkv b hb).1)
 have b7:BdAt B r lb l any bad unt w hdc #[.int .i64 KD,.int .i64 dm',.slice none 0 0,kv] ps Q2 l2 bad5 unt5 w7:=k.bd.kept (f7.weak (fun b hb=>by omega))
 have s7:=f7.size
 have hx:GAt Dk (Off wS kv) (w5.alloc o) [c0,c1,c2,c3] x:=by
  refine (hE.kept (w:=w5) (fun b _ hb=>Below.heap_alloc w5 o b hb) (hE.mono (P:=fun b=>wr.heap.size≤b) (fun b hb _=>⟨by omega,fun e=>?_⟩) k.gat))
  have:=(hkv b e.symm).2
  omega
 have o3':∀(i:Nat) (c:List Value) (x:G),css[i]?=some c→kids[i]?=some x→c.length=4∧GAt Dk (Off wS kv) (w5.alloc o) c x:=fun i c x hc hx=>⟨(o3 i c x hc hx).1,hE.kept (w:=w5) (fun b _ hb=>Below.heap_alloc w5 o b hb) (o3 i c x hc hx).2⟩
 have o8:OwnRows (GAt Dk) wS 27 4 w7 v' (kids++[x]):=OwnRows.snoc hE o2 o3' rfl hx (by rw[h.len];exact p1) p2 p3
 have k8:∀b,b≠w.heap.size+1→(w7.setCell ⟨w.heap.size+1,3,none⟩ v').heap[b]?=w7.heap[b]?:=fun b hb=>Below.heap_setCell _ _ _ _ hb
 have s8:(w7.setCell ⟨w.heap.size+1,3,none⟩ v').heap.size=w7.heap.size:=by simp[World.setCell]
 refine⟨b7.g,b7.setG 3 v',OwnRows.kept hE (fun b hb _=>k8 b (by omega)) o8,by rw[List.length_append,h.len];rfl,⟨hw2.1,by omega⟩,?_,fun e1 e2 hp hk=>?_⟩
 ·refine CellsAt.kept (w:=wr) h.ids (fun b hb hl=>?_)
  rw[k8 b (by omega),f7.block b (by omega) (by omega)]
  exact old b (by omega) hl
 ·obtain⟨e3,e4,e5⟩:=k.ok e1 e2
  obtain⟨g1,g2,ss,g3,g4⟩:=h.ok e3 e4 hp hk
  obtain⟨s,s1,s2⟩:=e5 hp hk
  exact⟨g1,g2,ss++[s],g3.snoc s1,by rw[g4,s2,List.map_append];rfl⟩
theorem LpAt.start{KD Dk dm B r lb:Nat}{l:List UInt8}{any bad unt:Bool}{w:World}{hdc:Array Value}{dm':Nat}{ps Q:List Int}{l0:List UInt8}{bad0 unt0:Bool}{lv:Value}{is:List Int}{lS:List UInt8}{bad2:Bool}{wr:World}{i:Nat}
  (h:IdAt B r lb l any bad unt w hdc #[.int .i64 KD,.int .i64 dm',.slice none 0 0,.slice none 0 0] ps Q l0 bad0 unt0 i lv is lS bad2 wr) :
  LpAt KD Dk dm B r lb l any bad unt w hdc dm' ps Q lS bad2 unt0 lv is wr.heap.size 0 (.slice none 0 0) [] Q lS bad2 unt0 wr:=by
 refine⟨h.bd,OwnRows.nil,rfl,⟨h.bd.size,Nat.le_refl _⟩,?_,fun e1 e2 _ _=>⟨e1,e2,[],.nil _ _,rfl⟩⟩
 exact (CellsAt.of_own h.own).mono (by decide) (fun b hb _=>h.own.lt b hb.symm)
theorem fr4(wz:World)(b:Nat)(v0 v1 v2 v3:Value):Fr (Eq b) wz ((((wz.setCell ⟨b,0,none⟩ v0).setCell ⟨b,1,none⟩ v1).setCell ⟨b,2,none⟩ v2).setCell ⟨b,3,none⟩ v3) :=
 ((((Fr.refl _ _).setR _).setR _).setR _).setR _
theorem LpAt.post{KD Dk dm B r lb:Nat}{l:List UInt8}{any bad unt:Bool}{w:World}{hdc:Array Value}{dm':Nat}{ps Q0:List Int}{lS:List UInt8}{bad2 unt0:Bool}{lv:Value}{is:List Int}{wS i:Nat}{kv:Value}{kids:List G}{Q:List Int}{li:List UInt8}{badi unti:Bool}{wr w':World}{n:Nat}{ids:Bool}{l0:List UInt8}
  (h:LpAt KD Dk dm B r lb l any bad unt w hdc dm' ps Q0 lS bad2 unt0 lv is wS i kv kids Q li badi unti wr) (f:Fr (Eq (w.heap.size+1)) wr w') (hx:i=n∨badi=true∨unti=true) (hi:i≤n) (hn:n≤4096) (hKD:KD=0∨3≤KD∧KD≤6) (hd:dm≤3) (hdm:dm'=if n=0 then 0 else dm)
  (hs:bad2=false→unt0=false→IdFacts KD n ids l l0 is lS) :
  BodyPost B r lb (Dk+1) KD ids l any bad unt w ps Q0 dm (.returned (.tuple #[.agg #[.int .i64 KD,.int .i64 dm',.slice none 0 0,kv],lv])) w':=by
 have hE:=GAt.kp Dk
 have hrw:=h.bd.rw
 have hlw:=h.bd.lw
 have hbw:=h.bd.bw
 have hw:=h.ws
 have hd3:dm'≤3:=by rw[hdm];split<;>omega
 refine⟨dm',_,_,_,rfl,.mk KD dm' [] kids,Q,li,badi,unti,is,⟨h.bd.st.inn.other (f.block r (by omega) (by omega)) (fun b hb=>f.block b (by omega) (by omega)),h.bd.st.fr.transNew f (fun b hb=>.inl (by omega)),h.bd.st.bad,h.bd.st.unt,h.bd.st.len⟩,h.bd.row.fr f (by omega),h.bd.qlen,h.bd.qb,?_,?_,fun e1 e2 hp k1 k2=>?_⟩
 ·have o1:=(h.own.kept hE (w':=w') (fun b h1 h2=>f.block b h2 (by omega))).done hE (by decide)
  have o2:=o1.mono hE (by decide) (Q:=fun b=>w.heap.size≤b) (fun b hb _=>by omega)
  have hk15:KD≤15:=by omega
  exact⟨_,_,rfl,⟨rfl,none,0,rfl,Nat.le_refl _,fun _=>⟨rfl,rfl⟩,fun h=>by simp[G.nums] at h⟩,o2,Nat.zero_le _,by show kids.length≤4096;have:=h.len;omega,Int.natCast_nonneg _,by show (KD:Int)≤15;omega,Int.natCast_nonneg _,by show (dm':Int)≤3;omega⟩
 ·exact (CellsAt.kept (w':=w') h.ids (fun b hb hl=>f.block b hl (by omega))).mono (by decide) (fun b hb _=>by omega)
 ·have hin:i=n:=by
   rcases hx with hx|hx|hx
   ·exact hx
   ·rw[hx] at e1;cases e1
   ·rw[hx] at e2;cases e2
  subst hin
  obtain⟨b2,u2,ss,s1,s2⟩:=h.ok e1 e2 hp (by omega)
  obtain⟨f1,f2,f3⟩:=hs b2 u2
  obtain⟨s,t1,t2⟩:=body_of_kids (kind:=KD) (by omega) (ids:=ids) dm hn f1 f2 f3 s1
  refine⟨s,t1,?_⟩
  rw[←t2,←s2]
  unfold wh
  rw[hdm,h.len]
theorem kd_ring{dm B r lb:Nat}{l:List UInt8}{any bad unt:Bool}{w:World}{hdc gc:Array Value}{ps:List Int}{Q:List Int}{li:List UInt8}{wr:World}
  (h:BdAt B r lb l any bad unt w hdc gc ps Q li false false wr) (hd:dm≤3) {nv:Value}{w2:World}
  (hp:RingPost B r lb li any false false (wr.alloc (.cells #[.int .i64 2,.int .i64 dm,.slice none 0 0,.slice none 0 0] 27)) ps Q (.returned nv) w2) :
  ∃a t c,nv=.slice a t c∧w2.heap[wr.heap.size]?=some (.cells #[.int .i64 2,.int .i64 dm,.slice none 0 0,.slice none 0 0] 27 (0,0)) ∧
   ∃x Q2 l2 bad2 unt2,KdAt 3 1 dm B r lb l any bad unt w hdc gc ps Q li false false wr wr.heap.size (.int .i64 2) (.int .i64 dm) nv (.slice none 0 0) x Q2 l2 bad2 unt2 (w2.setCell ⟨wr.heap.size,2,none⟩ nv):=by
 obtain⟨v,e,hh⟩:=hp
 injection e with e
 subst e
 obtain⟨Q2,l2,bad2,unt2,s1,s2,s3,s4,xs,x1,x2,x3⟩:=hh.out
 have hrw:=h.rw
 have hlw:=h.lw
 have hsz:=h.size
 have ha:(wr.alloc (.cells #[.int .i64 2,.int .i64 dm,.slice none 0 0,.slice none 0 0] 27)).heap.size=wr.heap.size+1:=by show (wr.heap.push _).size=_;rw[Array.size_push]
 have fa:Fr (fun b=>w.heap.size+2≤b) wr (wr.alloc (.cells #[.int .i64 2,.int .i64 dm,.slice none 0 0,.slice none 0 0] 27)):=(Fr.refl _ _).alloc _
 have b1:=h.kept fa
 have b2:=b1.step s1 s2 s3 s4
 have kb2:w2.heap[wr.heap.size]?=some (.cells #[.int .i64 2,.int .i64 dm,.slice none 0 0,.slice none 0 0] 27 (0,0)):=(s1.fr.block _ (by omega) (by rintro (e|e)<;>omega)).trans (zN wr _)
 obtain⟨a,c,rfl,-⟩:=x2.slice
 have k5:∀b,b≠wr.heap.size→(w2.setCell ⟨wr.heap.size,2,none⟩ (.slice a xs.length c)).heap[b]?=w2.heap[b]?:=fun b hb=>Below.heap_setCell _ _ _ _ hb
 refine⟨a,xs.length,c,rfl,kb2,.mk 2 dm xs [],Q2,l2,bad2,unt2,b2.kept ((Fr.refl _ _).setR _ (by show w.heap.size+2≤wr.heap.size;omega)),?_,?_,Nat.le_refl _,?_,fun e1 e2=>⟨rfl,rfl,fun hp _=>?_⟩⟩
 ·exact (((Fr.refl _ wr).alloc _).trans (s1.fr.weak (fun b hb=>.inl hb))).setR _ (.inr (Nat.le_refl _))
 ·exact Lib.heap_setCell_same (i:=2) kb2 _
 ·have n5:=(CellsAt.kept (w':=w2.setCell ⟨wr.heap.size,2,none⟩ (.slice a xs.length c)) x2 (fun b hb _=>k5 b (by omega))).mono (Q:=fun b=>wr.heap.size≤b) (by decide) (fun b hb _=>by omega)
  exact⟨_,_,rfl,n5,RowsAt.nil,x1,Nat.zero_le _,by show (0:Int)≤2;decide,by show (2:Int)≤15;decide,Int.natCast_nonneg _,by show (dm:Int)≤3;omega⟩
 ·obtain⟨ys,y1,y2⟩:=x3 e1 e2 hp
  exact⟨.one ys,by unfold KidR;rw[if_pos rfl];exact⟨ys,rfl,y1⟩,by rw[y2];rfl⟩
theorem kd_body{KD kk Dk dm B r lb:Nat}{l:List UInt8}{any bad unt:Bool}{w:World}{hdc gc:Array Value}{ps:List Int}{Q:List Int}{li:List UInt8}{wr:World}
  (h:BdAt B r lb l any bad unt w hdc gc ps Q li false false wr) (hK:KD≠3∧kk=kidK KD∧1≤kk∧kk≤6) {ki:Int} (hki:ki=(kk:Int)) {e:Ending}{w2:World}
  (hp:BodyPost B r lb Dk kk false li any false false (wr.alloc (.cells #[.int .i64 2,.int .i64 dm,.slice none 0 0,.slice none 0 0] 27)).drew ps Q dm e w2) :
  ∃(d':Nat) (a:Option Addr) (t c:Nat) (a2:Option Addr) (t2 c2:Nat) (lv:Value),e=.returned (.tuple #[.agg #[.int .i64 ki,.int .i64 d',.slice a t c,.slice a2 t2 c2],lv])∧w2.heap[wr.heap.size]?=some (.cells #[.int .i64 2,.int .i64 dm,.slice none 0 0,.slice none 0 0] 27 (0,0)) ∧
   ∃x Q2 l2 bad2 unt2,KdAt KD Dk dm B r lb l any bad unt w hdc gc ps Q li false false wr wr.heap.size (.int .i64 ki) (.int .i64 d') (.slice a t c) (.slice a2 t2 c2) x Q2 l2 bad2 unt2 ((((w2.setCell ⟨wr.heap.size,0,none⟩ (.int .i64 ki)).setCell ⟨wr.heap.size,1,none⟩ (.int .i64 d')).setCell ⟨wr.heap.size,2,none⟩ (.slice a t c)).setCell ⟨wr.heap.size,3,none⟩ (.slice a2 t2 c2)):=by
 subst hki
 obtain⟨d',nv,kv,lv,rfl,hh⟩:=hp
 obtain⟨g,Q2,l2,bad2,unt2,is,s1,s2,s3,s4,s5,s6,s7⟩:=hh.out
 have hE:=GAt.kp Dk
 have hrw:=h.rw
 have hlw:=h.lw
 have hsz:=h.size
 have ha:(wr.alloc (.cells #[.int .i64 2,.int .i64 dm,.slice none 0 0,.slice none 0 0] 27)).drew.heap.size=wr.heap.size+1:=by show (wr.heap.push _).size=_;rw[Array.size_push]
 have fa:Fr (fun b=>w.heap.size+2≤b) wr (wr.alloc (.cells #[.int .i64 2,.int .i64 dm,.slice none 0 0,.slice none 0 0] 27)).drew:=((Fr.refl _ _).alloc _).drew
 have b1:=h.kept fa
 have b2:=b1.step s1 s2 s3 s4
 have kb2:w2.heap[wr.heap.size]?=some (.cells #[.int .i64 2,.int .i64 dm,.slice none 0 0,.slice none 0 0] 27 (0,0)):=(s1.fr.block _ (by omega) (by rintro (e|e)<;>omega)).trans (zN wr _)
 have shapes:∃(a:Option Addr) (t c:Nat) (a2:Option Addr) (t2 c2:Nat),nv=.slice a t c∧kv=.slice a2 t2 c2:=by
  cases Dk with
  | zero=>exact s5.elim
  | succ Dk =>
   obtain⟨nv',kv',e1,e2,e3,_⟩:=s5
   injection e1 with e4 e1
   injection e1 with e5 e1
   injection e1 with e6 e1
   injection e1 with e7 e1
   subst e6 e7
   obtain⟨_,a,c,e8,_⟩:=e2
   obtain⟨a2,c2,e9,_⟩:=e3.at
   exact⟨a,_,c,a2,_,c2,e8,e9⟩
 obtain⟨a,t,c,a2,t2,c2,rfl,rfl⟩:=shapes
 refine⟨d',a,t,c,a2,t2,c2,lv,rfl,kb2,g,Q2,l2,bad2,unt2,b2.kept ((fr4 _ _ _ _ _ _).weak (fun b e=>by omega)),?_,?_,Nat.le_refl _,?_,fun e1 e2=>⟨rfl,rfl,fun hp _=>?_⟩⟩
 ·exact ((((Fr.refl _ wr).alloc _).drew).trans (s1.fr.weak (fun b hb=>.inl hb))).trans ((fr4 _ _ _ _ _ _).weak (fun b e=>.inr (by omega)))
 ·exact Lib.heap_setCell_same (i:=3) (Lib.heap_setCell_same (i:=2) (Lib.heap_setCell_same (i:=1) (Lib.heap_setCell_same (i:=0) kb2 _) _) _) _
 ·refine hE.mono (P:=fun b=>wr.heap.size+1≤b) (fun b hb _=>by omega) (hE.kept (w:=w2) (fun b hb hl=>(fr4 w2 wr.heap.size _ _ _ _).block b hl (by omega)) (hE.mono (fun b hb _=>by omega) s5))
 ·obtain⟨s,t1,t3⟩:=s7 e1 e2 hp hK.2.2.1 hK.2.2.2
  have:is=[]:=by
   have hcc:kk=1∨kk=2∨kk=3:=by rw[hK.2.1];unfold kidK;split<;>(try split)<;>simp
   unfold BodyQ at t1
   rcases hcc with h|h|h<;>subst h<;>cases s<;>first|exact t1.2|exact t1.elim
  subst this
  exact⟨s,by unfold KidR;rw[if_neg hK.1,←hK.2.1];exact t1,by rw[t3,←hK.2.1]⟩
theorem body_3(B r lb:Nat)(ids:Bool)(l:List UInt8)(any bad unt:Bool)(w:World)(hk dm:Nat)(em ix bx:Value)(pb po pc m:Nat)(ps Q0:List Int)(hB:B≤w.heap.size)(hrB:B≤r)(hlB:B≤lb)(hne:r≠lb)(hdm:dm≤3)(hm:m=ps.length)
  (hR:RIn (· < B) r w l any bad unt) (hL:RowI lb w Q0) (hQ:Q0.length=ps.length) (hq:∀q∈Q0,-9007199254740992≤q∧q≤9007199254740992) (hps:ps.length≤4) (hps2:2≤ps.length) (hpb:∀p∈ps,-8≤p∧p≤7)
  (hpv:PrecsAt (fun b=>¬RL r lb b) w (.slice (some ⟨pb,po,none⟩) m pc) ps) :
  Calls Tryz.prog 48 #[.pointer (some ⟨r,0,none⟩),.int .i64 3,.agg #[.int .i64 hk,.int .i64 dm,.slice (some ⟨pb,po,none⟩) m pc,em,ix,bx],.bool ids,.slice (some ⟨lb,0,none⟩) m m] w (BodyPost B r lb 2 3 ids l any bad unt w ps Q0 dm):=by
 obtain⟨w0,hw0⟩:∃w0,w0=(w.alloc (.cells (hdv hk dm pb po pc m em ix bx) 89)).alloc (.cells #[.int .i64 0,.int .i64 0,.slice none 0 0,.slice none 0 0] 27):=⟨_,rfl⟩
 obtain⟨hdc,hhdc⟩:∃hdc,hdc=hdv hk dm pb po pc m em ix bx:=⟨_,rfl⟩
 have HHDC:=zH hhdc
 have H0:Hid (BdAt B r lb l any bad unt w hdc #[.int .i64 0,.int .i64 0,.slice none 0 0,.slice none 0 0] ps Q0 l bad unt w0):=by rw[hw0,hhdc];exact BdAt.start hB hR hL hQ hq
 have H1:Hid (BdAt B r lb l any bad unt w hdc #[.int .i64 3,.int .i64 dm,.slice none 0 0,.slice none 0 0] ps Q0 l bad unt ((((w0.setCell ⟨w.heap.size+1,0,none⟩ (.int .i64 3)).setCell ⟨w.heap.size+1,1,none⟩ (.int .i64 dm)).setCell ⟨w.heap.size+1,2,none⟩ (.slice none 0 0)).setCell ⟨w.heap.size+1,3,none⟩ (.slice none 0 0))):=((H0.out.setG 0 (.int .i64 3)).setG 1 (.int .i64 dm) |>.setG 2 (.slice none 0 0) |>.setG 3 (.slice none 0 0))
 have HM:=zH hm
 have HPV:=zH hpv
 have HQ:=zH hQ
 have HQB:=zH hq
 have HPB:=zH hpb
 obtain⟨w1,hw1⟩:∃w1,w1=(((w0.setCell ⟨w.heap.size+1,0,none⟩ (.int .i64 3)).setCell ⟨w.heap.size+1,1,none⟩ (.int .i64 dm)).setCell ⟨w.heap.size+1,2,none⟩ (.slice none 0 0)).setCell ⟨w.heap.size+1,3,none⟩ (.slice none 0 0):=⟨_,rfl⟩
 rw[←hw1] at H1
 have HW0:=zH hw0
 have HW1:=zH hw1
 have h0:w0.cell? ⟨w.heap.size,1,none⟩=some (.int .i64 dm):=by rw[zC H0.out.hd,hhdc];rfl
 obtain⟨g0,g1,g2,g3,gf⟩:=g_cells H0.out.g
 have H109:Hid (∀l bad unt w,RIn (· < B) r w l any bad unt→Calls Tryz.prog 109 #[.pointer (some ⟨r,0,none⟩)] w fun e w'=>∃(z:Nat) (l':List UInt8) (bad':Bool),e=.returned (.int .u64 z)∧Hid (NumOf (· < B) r l any bad unt w z l' bad' w')):=fun l bad unt w h=>numOf h
 clear hm hw0 hw1 hpv hQ hR hL hhdc hq hpb
 go_enter Tryz.func48,Tryz.ntmps48
 go_upto_region 1 with fail
 have e0:(w.alloc (.cells #[.int .i64 hk,.int .i64 dm,.slice (some ⟨pb,po,none⟩) m pc,em,ix,bx] 89)).alloc (.cells #[.int .i64 0,.int .i64 0,.slice none 0 0,.slice none 0 0] 27)=w0:=HW0.out.symm
 rw[e0]
 clear e0
 go_upto_region 8 with fail
 rw[←HW1.out]
 clear h0 g0 g1 g2 g3 gf H0
 have C113:Hid (Calls Tryz.prog 113 #[.pointer (some ⟨r,0,none⟩)] w1 (CountPost (· < B) r l any bad unt w1)):=count113 _ r l any bad unt _ H1.out.st.inn
 go_upto_region 9 with (go_at_call 113;refine C113.out.mono ?_;rintro e wa ⟨n,l0,bad0,unt0,rfl,h1⟩)
 have hn:=h1.out.1
 have HA:=zH (H1.out.stepR hne h1.out.2.1)
 have HUV:=zH h1.out.2.2
 clear C113 h1
 obtain⟨dm',hdm'⟩:∃d:Nat,d=if n=0 then 0 else dm:=⟨_,rfl⟩
 have HDM:=zH hdm'
 clear hdm'
 obtain⟨g0,g1,g2,g3,gf⟩:=g_cells HA.out.g
 go_upto_if 41 with fail
 go_cut [] from 42 to 42 (fun wr=>Hid (BdAt B r lb l any bad unt w hdc #[.int .i64 3,.int .i64 dm',.slice none 0 0,.slice none 0 0] ps Q0 l0 bad0 unt0 wr))
 case first =>
  rcases Nat.eq_zero_or_pos n with hz|hz
  ·have hd0:dm'=0:=by rw[HDM.out,if_pos hz]
   subst hz
   have HS:=zH (HA.out.setG 1 (.int .i64 0))
   have HD0:=zH hd0
   clear hd0
   go_wp2_with fail
   go_meet
   show BdAt _ _ _ _ _ _ _ _ _ _ _ _ _ _ _ _
   rw[HD0.out]
   exact HS.out
  ·have hd0:dm'=dm:=by rw[HDM.out,if_neg (by omega)]
   have HD0:=zH hd0
   clear hd0
   go_wp2_with fail
   go_meet
   show BdAt _ _ _ _ _ _ _ _ _ _ _ _ _ _ _ _
   rw[HD0.out]
   exact HA.out
 case rest =>
  have HB:=hcut
  clear hcut HA g0 g1 g2 g3 gf
  go_upto_block 0 with fail
  go_cut [11,13] from 43 to 67 (fun lv iv wr=>IdDone 3 n ids B r lb l any bad unt w hdc #[.int .i64 3,.int .i64 dm',.slice none 0 0,.slice none 0 0] ps Q0 l0 bad0 unt0 lv wr)
  case first =>
   cases ids with
   | false =>
    have HI:Hid (IdDone 3 n false B r lb l any bad unt w hdc #[.int .i64 3,.int .i64 dm',.slice none 0 0,.slice none 0 0] ps Q0 l0 bad0 unt0 (.slice none 0 0) wc):=⟨[],l0,bad0,IdAt.start HB.out,fun h1 h2=>⟨HUV.out h1 h2,fun _=>by simp[IdsP],fun _=>⟨rfl,rfl⟩⟩⟩
    clear HB HUV
    go_wp2_with fail
    go_loopw [11,13] (fun lv iv wr=>lv=.slice none 0 0∧iv=.int .i64 0∧wr=wc) (fun _ _ _=>0)
    case atStart=>exact⟨rfl,rfl,rfl⟩
    case round =>
     obtain⟨hl,hi,hwr⟩:=hrel
     subst hl hi hwr
     rcases Nat.eq_zero_or_pos n with hz|hz
     ·subst hz
      go_wp2_with fail
      go_meet
      exact HI.out
     ·go_wp2_with fail
      go_meet
      exact HI.out
   | true =>
    have HI:Hid (IdDone 3 n true B r lb l any bad unt w hdc #[.int .i64 3,.int .i64 dm',.slice none 0 0,.slice none 0 0] ps Q0 l0 bad0 unt0 (.slice none 0 0) wc):=⟨[],l0,bad0,IdAt.start HB.out,fun h1 h2=>⟨HUV.out h1 h2,fun h=>absurd rfl h,fun _=>⟨rfl,rfl⟩⟩⟩
    clear HB HUV
    go_wp2_with fail
    go_loopw [11,13] (fun lv iv wr=>lv=.slice none 0 0∧iv=.int .i64 0∧wr=wc) (fun _ _ _=>0)
    case atStart=>exact⟨rfl,rfl,rfl⟩
    case round =>
     obtain⟨hl,hi,hwr⟩:=hrel
     subst hl hi hwr
     rcases Nat.eq_zero_or_pos n with hz|hz
     ·subst hz
      go_wp2_with fail
      go_meet
      exact HI.out
     ·go_wp2_with fail
      go_meet
      exact HI.out
  case rest =>
   obtain⟨is,lS,bad2,hI1,hI2⟩:=hcut
   have HI2:=zH hI2
   have HL0:Hid (LpAt 3 1 dm B r lb l any bad unt w hdc dm' ps Q0 lS bad2 unt0 u11 is wc.heap.size 0 (.slice none 0 0) [] Q0 lS bad2 unt0 wc):=LpAt.start hI1
   obtain⟨wS,hwS⟩:∃wS,wS=wc.heap.size:=⟨_,rfl⟩
   rw[←hwS] at HL0
   obtain⟨la,lc,hu11⟩:=slice_shape hI1.own
   obtain⟨ln,hln⟩:∃ln,ln=is.length:=⟨_,rfl⟩
   rw[←hln] at hu11
   subst hu11
   obtain⟨i0,hi0,hz0,hz1,hz2⟩:=info_parts info27
   clear hI1 hI2 hwS hln HB
   go_wp2_with fail
   go_loopw [14] (fun iv wr=>∃(i:Nat) (kv:Value) (kids:List G) (Q:List Int) (li:List UInt8) (badi unti:Bool),i≤n∧iv=.int .i64 i∧Hid (LpAt 3 1 dm B r lb l any bad unt w hdc dm' ps Q0 lS bad2 unt0 (.slice la ln lc) is wS i kv kids Q li badi unti wr)) (fun iv _=>n - (intOf iv).toNat)
   case atStart=>exact⟨0,_,[],Q0,lS,bad2,unt0,Nat.zero_le _,rfl,HL0.out⟩
   case round =>
    obtain⟨i,kv,kids,Q,li,badi,unti,hi,rfl,hrel⟩:=hrel
    clear HL0
    have c2:=hrel.out.bd.st.inn.c2
    have c3:=hrel.out.bd.st.inn.c3
    obtain⟨g0,g1,g2,g3,gf⟩:=g_cells hrel.out.bd.g
    obtain⟨ka,kc,hkv⟩:=slice_shape hrel.out.own.own.choose_spec
    rw[hrel.out.len] at hkv
    subst hkv
    have EX:Hid ((i=n∨badi=true∨unti=true)→BodyPost B r lb 2 3 ids l any bad unt w ps Q0 dm (.returned (.tuple #[.agg #[.int .i64 3,.int .i64 dm',.slice none 0 0,.slice ka i kc],.slice la ln lc])) ((((wr.setCell ⟨w.heap.size+1,0,none⟩ (.int .i64 3)).setCell ⟨w.heap.size+1,1,none⟩ (.int .i64 dm')).setCell ⟨w.heap.size+1,2,none⟩ (.slice none 0 0)).setCell ⟨w.heap.size+1,3,none⟩ (.slice ka i kc))):=fun hx=>hrel.out.post (KD:=3) (fr4 _ _ _ _ _ _) hx hi hn (by omega) hdm HDM.out HI2.out
    by_cases hlt:i < n
    ·cases badi with
     | true =>
      have hfin:=zH (EX.out (.inr (.inl rfl)))
      clear hrel EX
      go_wp2_with fail
      exact bodyPost_ret (v:=.tuple #[.agg #[.int .i64 3,.int .i64 dm',.slice none 0 0,.slice ka i kc],.slice la ln lc]) (by simp[results,Tryz.f48,go_sem,g0,g1,g2,g3]) rfl hfin.out
     | false =>
      cases unti with
      | true =>
       have hfin:=zH (EX.out (.inr (.inr rfl)))
       clear hrel EX
       go_wp2_with fail
       exact bodyPost_ret (v:=.tuple #[.agg #[.int .i64 3,.int .i64 dm',.slice none 0 0,.slice ka i kc],.slice la ln lc]) (by simp[results,Tryz.f48,go_sem,g0,g1,g2,g3]) rfl hfin.out
      | false =>
       clear EX
       have HK:=zH (hrel.out.bd.kept ((Fr.refl _ wr).alloc (.cells #[.int .i64 2,.int .i64 dm,.slice none 0 0,.slice none 0 0] 27)))
       have C114:Hid (Calls Tryz.prog 114 #[.pointer (some ⟨r,0,none⟩),.agg #[.int .i64 hk,.int .i64 dm,.slice (some ⟨pb,po,none⟩) m pc,em,ix,bx],.slice (some ⟨lb,0,none⟩) m m] (wr.alloc (.cells #[.int .i64 2,.int .i64 dm,.slice none 0 0,.slice none 0 0] 27)) (RingPost B r lb li any false false (wr.alloc (.cells #[.int .i64 2,.int .i64 dm,.slice none 0 0,.slice none 0 0] 27)) ps Q)):=by
        have hpv1:=HK.out.precs HPV.out
        rw[HM.out] at hpv1 ⊢
        exact ring114 B r lb li any false false _ (.int .i64 hk) (.int .i64 dm) em ix bx pb po pc ps Q (by have:=HK.out.size;omega) hrB hlB hne HK.out.st.inn HK.out.row HK.out.qlen HK.out.qb hps hps2 HPB.out hpv1
       obtain⟨d0,d1,d2,d3,d4,d5⟩:=hd_cells (by rw[←HHDC.out];exact HK.out.hd)
       obtain⟨e0,e1,e2,e3,e4,e5⟩:=hd_cells (by rw[←HHDC.out];exact hrel.out.bd.hd)
       have HKD:Hid (∀nv w2,RingPost B r lb li any false false (wr.alloc (.cells #[.int .i64 2,.int .i64 dm,.slice none 0 0,.slice none 0 0] 27)) ps Q (.returned nv) w2→_):=fun nv w2 hp=>kd_ring hrel.out.bd hdm hp
       go_upto_region 25 with (go_at_call 114;refine C114.out.mono ?_;rintro e w2 hp;obtain⟨nv,rfl,-⟩:=id hp;obtain⟨na,nt,nc,rfl,kb0,x,Q2,l2,bad5,unt5,hk5⟩:=HKD.out _ _ hp;clear hp;have HK5:=zH hk5;clear hk5;obtain⟨j0,j1,j2,j3,jf⟩:=g_cells kb0)
       obtain⟨w5,hw5⟩:∃w5,w5=w2.setCell ⟨wr.heap.size,2,none⟩ (.slice na nt nc):=⟨_,rfl⟩
       rw[←hw5] at HK5 ⊢
       clear hw5 j0 j1 j2 j3 jf kb0 d0 d1 d2 d3 d4 d5 e0 e1 e2 e3 e4 e5 g0 g1 g2 g3 gf HKD C114 HK
       obtain⟨cs,ow,nx⟩:=hrel.out.next HK5.out
       have OW:=zH ow
       have NX:=zH nx
       obtain⟨g0,g1,g2,g3,gf⟩:=g_cells HK5.out.bd.g
       obtain⟨j0,j1,j2,j3,jf⟩:=g_cells HK5.out.blk
       have K3:Hid (i+1≤maxLen):=by show _≤_;unfold maxLen;omega
       have K4:Hid ((i+1)*64≤140737488355328):=by show _≤_;omega
       have K5:Hid (wS≤(w5.alloc (.cells #[.int .i64 2,.int .i64 dm,.slice na nt nc,.slice none 0 0] 27)).heap.size):=by
        show _≤(w5.heap.push _).size
        rw[Array.size_push]
        have:=HK5.out.fr.size
        have:=hrel.out.ws.2
        omega
       have K7:Hid ((w5.alloc (.cells #[.int .i64 2,.int .i64 dm,.slice na nt nc,.slice none 0 0] 27)).ownsRow wS 27 4 (.slice ka i kc) i cs):=OW.out.alloc _
       have H1C:Hid (∀u∈[.int .i64 2,.int .i64 dm,.slice na nt nc,.slice none 0 0],Value.oneCell' u=true):=by
        intro u hu
        simp only[List.mem_cons,List.not_mem_nil,or_false] at hu
        rcases hu with rfl|rfl|rfl|rfl<;>rfl
       clear ow nx hrel HK5
       go_upto_region 17 with (at_builtin;refine wpList_append_own_at _ rfl _ _ 25 rfl wS 27 i0 (.agg #[.int .i64 0,.int .i64 0,.slice none 0 0,.slice none 0 0]) 4 64 Tryz.underlying25 hi0 hz0 hz1 hz2 rfl (by decide) _ i cs rfl K7.out ⟨_,0,none⟩ 1 1 [.int .i64 2,.int .i64 dm,.slice na nt nc,.slice none 0 0] rfl rfl (cell4_new _ _ _ _ _ _) H1C.out K3.out K4.out K5.out ?_;intro v' w7 hown1 hgrow1 _ hat;obtain⟨g6,cap6,rfl,_,_⟩:=own_capE hown1 (Nat.succ_pos _);have HH:=zH (NX.out _ _ _ hown1 hgrow1 hat);clear hown1 hgrow1 hat;obtain⟨p0,p1,p2,p3,pf⟩:=g_cells HH.out.1)
       clear p0 p1 p2 p3 pf g0 g1 g2 g3 gf j0 j1 j2 j3 jf OW NX K7
       go_wp2_with fail
       go_roundw
       case rel=>exact⟨i+1,_,_,_,_,_,_,by omega,by go_num,HH.out.2⟩
       case measure=>simp[intOf];omega
    ·have hfin:=zH (EX.out (.inl (by omega)))
     clear hrel EX
     go_wp2_with fail
     exact bodyPost_ret (v:=.tuple #[.agg #[.int .i64 3,.int .i64 dm',.slice none 0 0,.slice ka i kc],.slice la ln lc]) (by simp[results,Tryz.f48,go_sem,g0,g1,g2,g3]) rfl hfin.out
end Go.Proofs.YtnjjgbcmjnfijaaGreatDoor
