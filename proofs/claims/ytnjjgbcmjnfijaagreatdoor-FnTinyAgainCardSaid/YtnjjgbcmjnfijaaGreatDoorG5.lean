/- The places that the reference reads. No condition. -/
import Derived.Test.YtnjjgbcmjnfijaaGreatDoorPz
import Derived.Maps.AppendAt
namespace Go.Proofs.YtnjjgbcmjnfijaaGreatDoor
set_option maxRecDepth 100000
set_option maxHeartbeats 4000000
open Go.RowKit
def RowI (b:Nat) (w:World) (Q:List Int):Prop:=w.heap[b]?=some (.cells (Q.map fun q=>Value.int .i64 q).toArray 3 (0,0))
theorem RowI.cell{b:Nat}{w:World}{Q:List Int}(h:RowI b w Q)(k:Nat)(hk:k < Q.length):w.cell? ⟨b,k,none⟩=some (.int .i64 Q[k]):=by
 rw[zC h];simp[hk]
theorem RowI.fz{b:Nat}{w:World}{Q:List Int}(h:RowI b w Q)(k:Nat):w.frozen? ⟨b,k,none⟩=false:=zF h k
theorem RowI.set{b:Nat}{w:World}{Q:List Int}(h:RowI b w Q)(k:Nat)(q:Int):RowI b (w.setCell ⟨b,k,none⟩ (.int .i64 q)) (Q.set k q):=by
 have:=Lib.heap_setCell_same (i:=k) h (.int .i64 q)
 unfold RowI
 rw[this,List.map_set]
 simp
theorem RowI.fr{R:Nat→Prop}{b:Nat}{w w':World}{Q:List Int}(h:RowI b w Q)(hf:Fr R w w')(hn:¬R b):RowI b w' Q:=by
 unfold RowI
 rw[hf.block b (zG h).1 hn]
 exact h
def PrecsAt (P:Nat→Prop) (w:World) (v:Value) (ps:List Int):Prop:=CellsAt P w v ps.length 1 (ps.map fun p=>.int .i64 p)
theorem RIn.other{B r:Nat}{w w':World}{l:List UInt8}{any bad unt:Bool}(h:RIn (· < B) r w l any bad unt)(hr:w'.heap[r]?=w.heap[r]?)(hb:∀k,k < B→w'.heap[k]?=w.heap[k]?):RIn (· < B) r w' l any bad unt:=by
 obtain⟨v,h1,h2,h3⟩:=h
 exact⟨v,hr.trans h1,CellsAt.kept h2 (fun b hb' _=>hb b hb'),h3⟩
theorem RIn.lt{P:Nat→Prop}{r:Nat}{w:World}{l:List UInt8}{any bad unt:Bool}(h:RIn P r w l any bad unt):r < w.heap.size:=by
 obtain⟨v,h1,_⟩:=h
 exact (zG h1).1
theorem RIn.fr{R:Nat→Prop}{B r:Nat}{w w':World}{l:List UInt8}{any bad unt:Bool}(h:RIn (· < B) r w l any bad unt)(hf:Fr R w w')(hr:¬R r)(hR:∀k,R k→B≤k)(hB:B≤w.heap.size):RIn (· < B) r w' l any bad unt :=
 h.other (hf.block r h.lt hr) (fun k hk=>hf.block k (by omega) (fun e=>by have:=hR k e;omega))
def RL (r lb:Nat):Nat→Prop:=fun k=>k=r∨k=lb
structure PlAt (B r lb:Nat) (l:List UInt8) (any bad unt:Bool) (w:World) (hd:Array Value) (ps Q0:List Int) (k t:Nat) (v:Value) (Q:List Int) (l1:List UInt8) (bad1 unt1:Bool) (w1:World):Prop where
 st:St (RL r lb) (· < B) r l any bad unt w l1 bad1 unt1 w1
 row:RowI lb w1 Q
 qlen:Q.length=ps.length
 qb:∀q∈Q,-9007199254740992≤q∧q≤9007199254740992
 box:w1.heap[w.heap.size]?=some (.cells hd 89 (0,0))
 own:∃xs:List Nat,xs.length=t∧w1.ownsRow (w.heap.size+1) 40 1 v t (xs.map flv)∧(bad1=false→unt1=false→∃ds,RC l ds l1∧ds.length=t∧runE (ps.zip Q0) ds=queue ps Q k∧Bd (run (ps.zip Q0) ds)∧((∀p∈ps,0≤p)→xs=(run (ps.zip Q0) ds).map fun x=>vl x.2 x.1.toNat))
def PlPost (B r lb:Nat) (l:List UInt8) (any bad unt:Bool) (w:World) (ps Q0:List Int) (n:Nat) (e:Ending) (w':World):Prop :=
 ∃v,e=.returned v∧Hid (∃t Q l1 bad1 unt1,St (RL r lb) (· < B) r l any bad unt w l1 bad1 unt1 w'∧RowI lb w' Q∧Q.length=ps.length∧(∀q∈Q,-9007199254740992≤q∧q≤9007199254740992)∧t≤n*ps.length ∧
  ∃xs:List Nat,xs.length=t∧w'.ownsRow w.heap.size 40 1 v t (xs.map flv)∧(bad1=false→unt1=false→∃ys,RowP ps Q0 n l ys Q l1∧((∀p∈ps,0≤p)→xs=ys.map flp)))
theorem ownsRow_base{w:World}{B B':Nat}{e:TypeId}{sz:Nat}{v:Value}{n:Nat}{xs:List Value}(h:w.ownsRow B e sz v n xs)(hb:B'≤B):w.ownsRow B' e sz v n xs :=
 ⟨h.1,h.2.imp id (fun ⟨g,cap,cur,h1,h2,h3⟩=>⟨g,cap,cur,h1,by omega,h3⟩)⟩
theorem ownsRow_fr{R:Nat→Prop}{w w':World}{B:Nat}{e:TypeId}{sz:Nat}{v:Value}{n:Nat}{xs:List Value}(h:w.ownsRow B e sz v n xs)(hf:Fr R w w')(hR:∀k,R k→k < B):w'.ownsRow B e sz v n xs:=by
 refine⟨h.1,h.2.imp id ?_⟩
 rintro ⟨g,cap,cur,h1,h2,h3,h4⟩
 exact⟨g,cap,cur,h1,h2,by rw[hf.block g (zG h3).1 (fun e=>by have:=hR g e;omega)];exact h3,h4⟩
section
variable {B r lb:Nat}{l:List UInt8}{any bad unt:Bool}{w:World}{hd:Array Value}{ps Q0:List Int}{k t:Nat}{v:Value}{Q:List Int}{l1 l2:List UInt8}{bad1 unt1 bad2 unt2:Bool}{w1 w2:World}
theorem PlAt.exit{i n m:Nat}(h:PlAt B r lb l any bad unt w hd ps Q0 0 (i*m) v Q l1 bad1 unt1 w1)(hi:i≤n)(hm:m=ps.length)(hq0:Q0.length=ps.length)(hor:i=n∨bad1=true∨unt1=true):PlPost B r lb l any bad unt w ps Q0 n (.returned v) w1:=by
 obtain⟨xs,hx1,hx2,hx3⟩:=h.own
 refine⟨v,rfl,i*m,Q,l1,bad1,unt1,h.st,h.row,h.qlen,h.qb,by rw[←hm];exact Nat.mul_le_mul_right _ hi,xs,hx1,ownsRow_base hx2 (by omega),fun h1 h2=>?_⟩
 obtain⟨ds,hd1,hd2,hd3,hd5,hd4⟩:=hx3 h1 h2
 rcases hor with rfl|hb|hb
 ·exact⟨_,⟨⟨ds,hd1,by rw[hd2,hm],by rw[hd3,queue_zero],rfl⟩,hd5,hq0,h.qlen⟩,hd4⟩
 ·rw[hb] at h1;cases h1
 ·rw[hb] at h2;cases h2
theorem PlAt.stored(h:PlAt B r lb l any bad unt w hd ps Q0 k t v Q l1 bad1 unt1 w1)(hk:k < Q.length)(hlB:B≤lb)(hne:r≠lb)(hr:r < w.heap.size)(hl:lb < w.heap.size){n:Int}(hn0 : -9007199254740992≤n)(hn1:n≤9007199254740992)(hst:St (Eq r) (· < B) r l1 any bad1 unt1 w1 l2 bad2 unt2 w2)(hz:bad2=false→unt2=false→∃z:Nat,UV l1 z l2∧n=Q[k]+unz z):
  St (RL r lb) (· < B) r l any bad unt w l2 bad2 unt2 (w2.setCell ⟨lb,k,none⟩ (.int .i64 n))∧RowI lb (w2.setCell ⟨lb,k,none⟩ (.int .i64 n)) (Q.set k n)∧(∀q∈Q.set k n,-9007199254740992≤q∧q≤9007199254740992) ∧
  (w2.setCell ⟨lb,k,none⟩ (.int .i64 n)).heap[w.heap.size]?=some (.cells hd 89 (0,0)) ∧
  ∃xs:List Nat,xs.length=t∧(w2.setCell ⟨lb,k,none⟩ (.int .i64 n)).ownsRow (w.heap.size+1) 40 1 v t (xs.map flv)∧(bad2=false→unt2=false→∃ds,RC l ds l2∧ds.length=t+1∧runE (ps.zip Q0) ds=queue ps (Q.set k n) (k+1)∧Bd (run (ps.zip Q0) ds)∧((∀p∈ps,0≤p)→xs++[vl n (ps.getD k 0).toNat]=(run (ps.zip Q0) ds).map fun x=>vl x.2 x.1.toNat)):=by
 have hf2:Fr (RL r lb) w w2:=h.st.fr.trans (hst.fr.weak (fun k e=>.inl e.symm))
 have hrow2:RowI lb w2 Q:=h.row.fr hst.fr hne
 have hf3:Fr (RL r lb) w (w2.setCell ⟨lb,k,none⟩ (.int .i64 n)):=hf2.setR _ (.inr rfl)
 have hs:∀g,g≠lb→(w2.setCell ⟨lb,k,none⟩ (.int .i64 n)).heap[g]?=w2.heap[g]?:=fun g hg=>Below.heap_setCell _ _ _ _ hg
 have hbs:=h.box
 have hbl:w.heap.size < w1.heap.size:=(zG hbs).1
 refine⟨⟨hst.inn.other (hs r hne) (fun g hg=>hs g (by omega)),hf3,fun e=>hst.bad (h.st.bad e),fun e=>hst.unt (h.st.unt e),Nat.le_trans hst.len h.st.len⟩,hrow2.set k n,fun q hq=>?_,?_,?_⟩
 ·rcases List.mem_or_eq_of_mem_set hq with hq|rfl
  ·exact h.qb q hq
  ·exact⟨hn0,hn1⟩
 ·rw[hs _ (by omega),hst.fr.block _ hbl (by omega)]
  exact hbs
 ·obtain⟨xs,hx1,hx2,hx3⟩:=h.own
  refine⟨xs,hx1,ownsRow_fr (R:=Eq lb) (ownsRow_fr hx2 hst.fr (fun g e=>by omega)) ((Fr.refl _ _).setR _) (fun g e=>by omega),fun e1 e2=>?_⟩
  have b1:bad1=false:=by
   cases hb:bad1 with
   | false=>rfl
   | true=>rw[hst.bad hb] at e1;cases e1
  have u1:unt1=false:=by
   cases hb:unt1 with
   | false=>rfl
   | true=>rw[hst.unt hb] at e2;cases e2
  obtain⟨ds,d1,d2,d3,d5,d4⟩:=hx3 b1 u1
  obtain⟨z,hz1,hz2⟩:=hz e1 e2
  have hkp:k < ps.length:=by rw[←h.qlen];exact hk
  have hstep:=run_step (unz z) hkp hk d3
  rw[←hz2] at hstep
  refine⟨ds++[unz z],d1.snoc hz1 (uv_lt hz1),by simp[d2],hstep.2,by rw[hstep.1];exact d5.app (fun x hx=>by simp at hx;subst hx;exact⟨hn0,hn1⟩),fun hp=>?_⟩
  rw[hstep.1,List.map_append,←d4 hp]
  simp[List.getD_eq_getElem?_getD,hkp]
theorem PlAt.appended{xs:List Nat}{x:Nat}{n:Int}{hk:k < ps.length}{w3 w4 w5:World}{v':Value}{o:Obj}{row:Option Nat}(hB:B≤w.heap.size)(hne:r≠lb)(hr:r < w.heap.size)(hl:lb < w.heap.size)
  (s1:St (RL r lb) (· < B) r l any bad unt w l2 bad1 unt1 w3) (s2:RowI lb w3 Q) (s2':Q.length=ps.length) (s3:∀q∈Q,-9007199254740992≤q∧q≤9007199254740992) (s4:w3.heap[w.heap.size]?=some (.cells hd 89 (0,0)))
  (x1:xs.length=t) (x3:bad1=false→unt1=false→∃ds,RC l ds l2∧ds.length=t+1∧runE (ps.zip Q0) ds=queue ps Q (k+1)∧Bd (run (ps.zip Q0) ds)∧((∀p∈ps,0≤p)→xs++[vl n (ps.getD k 0).toNat]=(run (ps.zip Q0) ds).map fun x=>vl x.2 x.1.toNat))
  (h4:St (Eq r) (· < B) r l2 any bad1 unt1 w3 l2 bad1 unt2 w4) (hx:unt2=false→0≤ps[k]→x=vl n (ps[k]).toNat)
  (own:w5.ownsRow (w.heap.size+1) 40 1 v' (t+1) (xs.map flv++[flv x])) (g:(w4.alloc o).grownBy w5 row) (hrow:∀g,row=some g→w.heap.size+1≤g) :
  PlAt B r lb l any bad unt w hd ps Q0 (k+1) (t+1) v' Q l2 bad1 unt2 w5:=by
 have hf5:Fr (fun g=>w.heap.size+1≤g) w4 w5:=((Fr.refl _ w4).alloc o).grown g (fun g hg=>.inr (hrow g hg))
 have hbl:w.heap.size < w3.heap.size:=(zG s4).1
 have hsz:=h4.fr.size
 have hf:Fr (RL r lb) w w5:=(s1.fr.trans (h4.fr.weak (fun k e=>.inl e.symm))).transNew hf5 (fun b hb=>.inl (by omega))
 refine⟨⟨h4.inn.fr hf5 (by omega) (fun k hk=>by omega) (by omega),hf,fun e=>h4.bad (s1.bad e),fun e=>h4.unt (s1.unt e),s1.len⟩,(s2.fr h4.fr hne).fr hf5 (by omega),s2',s3,?_,xs++[x],by simp[x1],by rw[List.map_append];exact own,fun e1 e2=>?_⟩
 ·rw[hf5.block _ (by omega) (by omega),h4.fr.block _ hbl (by omega)]
  exact s4
 ·have u1:unt1=false:=by
   cases hb:unt1 with
   | false=>rfl
   | true=>rw[h4.unt hb] at e2;cases e2
  obtain⟨ds,d1,d2,d3,d5,d4⟩:=x3 e1 u1
  refine⟨ds,d1,d2,d3,d5,fun hp=>?_⟩
  rw[←d4 hp,hx e2 (hp _ (List.getElem_mem _))]
  simp[List.getD_eq_getElem?_getD,hk]
theorem PlAt.wrap{m:Nat}(h:PlAt B r lb l any bad unt w hd ps Q0 m t v Q l1 bad1 unt1 w1)(hm:m=ps.length):PlAt B r lb l any bad unt w hd ps Q0 0 t v Q l1 bad1 unt1 w1:=by
 obtain⟨h1,h2,h3,h4,h5,xs,h6,h7,h8⟩:=h
 refine⟨h1,h2,h3,h4,h5,xs,h6,h7,fun e1 e2=>?_⟩
 obtain⟨ds,d1,d2,d3,d5,d4⟩:=h8 e1 e2
 exact⟨ds,d1,d2,by rw[d3,queue_zero,queue_full _ _ _ hm.symm (by rw[h3,hm])],d5,d4⟩
end
theorem info40:(Tryz.prog.info? 40).map (fun i=>(i.zero,i.size,i.bytes))=some (some (.float .f64 0),1,8):=by kernel_rfl
theorem one_one(a:Value)(ha:a.oneCell'=true):∀u∈[a],u.oneCell'=true:=by
 intro u hu;simp at hu;subst hu;exact ha
theorem places112(B r lb:Nat)(l:List UInt8)(any bad unt:Bool)(w:World)(n:Nat)(hn:n≤4096)(kd dm em ix bx:Value)(pb po:Nat)(pc:Nat)(ps Q0:List Int)(hB:B≤w.heap.size)(hlB:B≤lb)(hne:r≠lb)
  (hR:RIn (· < B) r w l any bad unt) (hL:RowI lb w Q0) (hQ:Q0.length=ps.length) (hq:∀q∈Q0,-9007199254740992≤q∧q≤9007199254740992) (hps:ps.length≤4) (hps2:2≤ps.length) (hpb:∀p∈ps,-8≤p∧p≤7)
  (hpv:PrecsAt (fun b=>¬RL r lb b) w (.slice (some ⟨pb,po,none⟩) ps.length pc) ps) :
  Calls Tryz.prog 112 #[.pointer (some ⟨r,0,none⟩),.int .i64 n,.agg #[kd,dm,.slice (some ⟨pb,po,none⟩) ps.length pc,em,ix,bx],.slice (some ⟨lb,0,none⟩) ps.length ps.length] w (PlPost B r lb l any bad unt w ps Q0 n):=by
 obtain⟨i0,hi0,hz0,hz1,hz2⟩:=info_parts info40
 obtain⟨m,hm⟩:∃m,m=ps.length:=⟨_,rfl⟩
 have HM:=zH hm
 have HPV:=zH hpv
 have HQ0:=zH hQ
 rw[←hm] at hps hps2 ⊢
 obtain⟨hd,hhd⟩:∃hd:Array Value,hd=#[kd,dm,.slice (some ⟨pb,po,none⟩) m pc,em,ix,bx]:=⟨_,rfl⟩
 obtain⟨w0,hw0⟩:∃w0,w0=w.alloc (.cells hd 89):=⟨_,rfl⟩
 have P0:Hid (PlAt B r lb l any bad unt w hd ps Q0 0 0 (.slice none 0 0) Q0 l bad unt w0):=by
  have hf:Fr (RL r lb) w w0:=by rw[hw0];exact (Fr.refl _ w).alloc _
  refine⟨⟨hR.fr (R:=fun _=>False) (by rw[hw0];exact (Fr.refl _ w).alloc _) (by simp) (by simp) hB,hf,fun h=>h,fun h=>h,Nat.le_refl _⟩,hL.fr (R:=fun _=>False) (by rw[hw0];exact (Fr.refl _ w).alloc _) (by simp),hQ,hq,by rw[hw0];exact zN _ _,[],rfl,World.ownsRow_nil _ _ _ _,fun _ _=>⟨[],.nil l,rfl,by rw[queue_zero];rfl,(by cases ps.zip Q0<;>(intro x hx;cases hx)),fun _=>by cases ps.zip Q0<;>rfl⟩⟩
 have HHD:=zH hhd
 have HW0:Hid (w.alloc (.cells #[kd,dm,.slice (some ⟨pb,po,none⟩) m pc,em,ix,bx] 89)=w0):=by rw[←hhd];exact hw0.symm
 have hrw:=hR.lt
 have hlw:lb < w.heap.size:=(zG hL).1
 clear hR hL hQ hq hpv hm
 go_enter Tryz.func112,Tryz.ntmps112
 clear hhd hw0
 have hpc:∀k,(hk:k < m)→∀l1 bad1 unt1 wr,St (RL r lb) (· < B) r l any bad unt w l1 bad1 unt1 wr→wr.cell? ⟨pb,po+k,none⟩=some (.int .i64 (ps[k]'(by rw[←HM.out];exact hk))):=by
  intro k hk l1 bad1 unt1 wr hst
  obtain⟨_,a,c,e,_,_,h4⟩:=HPV.out
  obtain⟨b,o,e2,hp,hc⟩:=h4 (by rw[←HM.out];omega)
  injection e with e1
  rw[←e1] at e2
  injection e2 with e2
  injection e2 with e2 e3
  subst e2 e3
  have:=hc k (.int .i64 (ps[k]'(by rw[←HM.out];exact hk))) (by simp[show k < ps.length by rw[←HM.out];exact hk])
  exact hst.fr.cell this hp
 have HPC:=zH hpc
 clear hpc
 have hhd2:hd[2]?=some (.slice (some ⟨pb,po,none⟩) m pc):=by rw[HHD.out];rfl
 go_upto_region 3 with fail
 go_loopw [9,10] (fun vv iv wr=>∃(i:Nat) (v:Value) (Q:List Int) (l1:List UInt8) (bad1 unt1:Bool),i≤n∧iv=.int .i64 i∧vv=v∧Hid (PlAt B r lb l any bad unt w hd ps Q0 0 (i*m) v Q l1 bad1 unt1 wr)) (fun _ iv _=>n - (intOf iv).toNat)
 case atStart =>
  rw[HW0.out]
  exact⟨0,_,Q0,l,bad,unt,Nat.zero_le _,rfl,rfl,by rw[Nat.zero_mul];exact P0.out⟩
 case round =>
  obtain⟨i,v,Q,l1,bad1,unt1,hi,rfl,rfl,hrel⟩:=hrel
  have c2:=hrel.out.st.inn.c2
  have c3:=hrel.out.st.inn.c3
  by_cases hlt:i < n
  ·cases hb1:bad1 with
   | true =>
    rw[hb1] at c2
    have hfin:=zH (hrel.out.exit hi HM.out HQ0.out (.inr (.inl hb1)))
    clear hrel hb1
    go_wp2_with fail
    go_ret
    exact hfin.out
   | false =>
    cases hu1:unt1 with
    | true =>
     rw[hb1] at c2
     rw[hu1] at c3
     have hfin:=zH (hrel.out.exit hi HM.out HQ0.out (.inr (.inr hu1)))
     clear hrel hb1 hu1
     go_wp2_with fail
     go_ret
     exact hfin.out
    | false =>
     subst hb1 hu1
     have cb:wr.cell? ⟨w.heap.size,2,none⟩=some (.slice (some ⟨pb,po,none⟩) m pc):=by rw[zC hrel.out.box];exact hhd2
     go_upto_region 6 with fail
     have H0:=hrel
     clear hrel c2 c3 cb
     go_loopw [9,35] (fun vv kv wr=>∃(k:Nat) (v:Value) (Q:List Int) (l1:List UInt8) (bad1 unt1:Bool),k≤m∧kv=.int .i64 k∧vv=v∧Hid (PlAt B r lb l any bad unt w hd ps Q0 k (i*m+k) v Q l1 bad1 unt1 wr)) (fun _ kv _=>m - (intOf kv).toNat)
     case atStart=>exact⟨0,_,Q,l1,false,false,Nat.zero_le _,rfl,rfl,H0⟩
     case round =>
      clear H0
      obtain⟨k,v,Q2,l2,bad2,unt2,hk,rfl,rfl,hrel⟩:=hrel
      by_cases hkm:k < m
      ·have hkQ:k < Q2.length:=by rw[hrel.out.qlen,←HM.out];exact hkm
       have p1:=HPC.out k hkm _ _ _ _ hrel.out.st
       have q1:=hrel.out.row.cell k hkQ
       have hqb:=hrel.out.qb _ (List.getElem_mem hkQ)
       have hpk:=hpb _ (List.getElem_mem (by rw[←HM.out];exact hkm:k < ps.length))
       obtain⟨o,ho⟩:∃o,o=Q2[k]:=⟨_,rfl⟩
       obtain⟨p,hp⟩:∃p,p=ps[k]'(by rw[←HM.out];exact hkm):=⟨_,rfl⟩
       rw[←ho] at q1 hqb
       rw[←hp] at p1 hpk
       have C110:=zH (step110 _ r _ _ _ _ _ o hqb.1 hqb.2 hrel.out.st.inn)
       have HO:=zH ho
       have HP:=zH hp
       have HPK:=zH hpk
       clear ho hp hqb
       have HRW:Hid (∀(nn:Int) l3 bad3 unt3 w2,Hid (-9007199254740992≤nn∧nn≤9007199254740992∧St (Eq r) (· < B) r l2 any bad2 unt2 wr l3 bad3 unt3 w2∧(bad3=false→unt3=false→∃z:Nat,UV l2 z l3∧nn=o+unz z))→RowI lb w2 Q2):=fun nn l3 bad3 unt3 w2 h=>hrel.out.row.fr h.out.2.2.1.fr hne
       go_upto_region 8 with fail
       go_upto_region 9 with (go_at_call 110;refine C110.out.mono ?_;rintro e w2 ⟨nn,l3,bad3,unt3,rfl,h3⟩;have f2:=(HRW.out _ _ _ _ _ h3).fz k;have g2:=(HRW.out _ _ _ _ _ h3).cell k hkQ)
       obtain⟨n0,n1,hst,hz⟩:=h3.out
       rw[HO.out] at hz
       have hs:=hrel.out.stored hkQ hlB hne hrw hlw n0 n1 hst hz
       obtain⟨w3,hw3⟩:∃w3,w3=w2.setCell ⟨lb,k,none⟩ (.int .i64 nn):=⟨_,rfl⟩
       rw[←hw3] at hs ⊢
       obtain⟨s1,s2,s3,s4,xs,x1,x2,x3⟩:=hs
       have d1:w3.cell? ⟨lb,k,none⟩=some (.int .i64 nn):=by
        have:=s2.cell k (by simpa using hkQ)
        rw[this,List.getElem_set_self]
       have C111:=zH (val111 _ r _ _ _ _ w3 nn p n0 n1 (by have:=HPK.out;omega) (by have:=HPK.out;omega) s1.inn)
       have him:i*m+k≤20000:=by
        have:i*m≤4096*4:=Nat.mul_le_mul (by omega) hps
        omega
       have K3:Hid (i*m+k+1≤maxLen):=by show _≤_;unfold maxLen;omega
       have K4:Hid ((i*m+k+1)*8≤140737488355328):=by show _≤_;omega
       have hbx:w.heap.size < w3.heap.size:=(zG s4).1
       have KS:Hid (∀(x:Nat) unt4 w4,Hid (St (Eq r) (· < B) r l3 any bad3 unt3 w3 l3 bad3 unt4 w4∧(unt4=false→0≤p→x=vl nn p.toNat))→w.heap.size+1≤w4.heap.size):=fun x unt4 w4 h=>by have:=h.out.1.fr.size;omega
       have K5:Hid (∀(x:Nat) unt4 w4,Hid (St (Eq r) (· < B) r l3 any bad3 unt3 w3 l3 bad3 unt4 w4∧(unt4=false→0≤p→x=vl nn p.toNat))→w.heap.size+1≤(w4.alloc (.cells #[.float .f64 x] 40)).heap.size):=fun x unt4 w4 h=>by
        have:=KS.out _ _ _ h
        show _≤(w4.heap.push _).size
        rw[Array.size_push];omega
       have K6:Hid (∀(x:Nat) (w2:World) (j:Nat) (u:Value),[flv x][j]?=some u→(w2.alloc (.cells #[.float .f64 x] 40)).cell? ((⟨w2.heap.size,0,none⟩:Addr).add j)=some u):=fun x w2 j u h=>cell_one_new w2 _ _ j u h
       have K7:Hid (∀(x:Nat) unt4 w4,Hid (St (Eq r) (· < B) r l3 any bad3 unt3 w3 l3 bad3 unt4 w4∧(unt4=false→0≤p→x=vl nn p.toNat))→(w4.alloc (.cells #[.float .f64 x] 40)).ownsRow (w.heap.size+1) 40 1 u9 (i*m+k) (xs.map flv)):=fun x unt4 w4 h=>(ownsRow_fr x2 h.out.1.fr (fun g e=>by omega)).alloc _
       have HS:=zH (⟨s1,s2,s3,s4,x1,x2,x3⟩:_∧_∧_∧_∧_∧_∧_)
       clear hw3 h3 n0 n1 hst hz f2 g2 C110 HRW q1 s1 s2 s3 s4 x1 x2 x3 him hbx
       go_wp2_with first|(go_at_call 111;refine C111.out.mono ?_;rintro e w4 ⟨x,unt4,rfl,h4⟩)|(at_builtin;refine wpList_append_own _ rfl _ _ 24 rfl (w.heap.size+1) 40 i0 (.float .f64 0) 1 8 Tryz.underlying24 hi0 hz0 hz1 hz2 rfl (by decide) _ _ _ rfl (K7.out _ _ _ h4) ⟨_,0,none⟩ 1 1 [flv x] rfl rfl (K6.out _ _) (one_one _ rfl) K3.out K4.out (K5.out _ _ _ h4) ?_;intro v' w5 hown1 hgrow1 _;have HO1:=zH hown1;clear hown1;have HG1:=zH hgrow1;clear hgrow1;refine Hid.out ?_)
       refine zH ?_
       have HPL:Hid (PlAt B r lb l any bad unt w hd ps Q0 (k+1) (i*m+k+1) v' (Q2.set k nn) l3 bad3 unt4 w5):=by
        obtain⟨s1,s2,s3,s4,x1,x2,x3⟩:=HS.out
        exact PlAt.appended hB hne hrw hlw s1 s2 (by rw[List.length_set];exact hrel.out.qlen) s3 s4 x1 x3 h4.out.1 (fun e1 e2=>by rw[h4.out.2 e1 (by rw[←HP.out] at e2;exact e2),HP.out]) HO1.out HG1.out (fun g hg=>((K7.out _ _ _ h4).lt g hg).1)
       clear HG1
       go_wp2_with fail
       go_roundw
       case rel=>exact⟨k+1,v',Q2.set k nn,l3,bad3,unt4,by omega,by go_num,rfl,HPL.out⟩
       case measure=>simp[intOf];omega
      ·have hkm2:k=m:=by omega
       subst hkm2
       go_wp2_with fail
       go_roundw
       case rel=>exact⟨i+1,_,Q2,l2,bad2,unt2,by omega,by go_num,rfl,by rw[Nat.succ_mul];exact hrel.out.wrap HM.out⟩
       case measure=>simp[intOf];omega
  ·have hfin:=zH (hrel.out.exit hi HM.out HQ0.out (.inl (by omega)))
   clear hrel
   go_wp2_with fail
   go_ret
   exact hfin.out
open Go.RowKit
def eqF (x y:Nat):Bool:=Ieee.double.order x y == some .eq
def eqFs:List Nat→List Nat→Bool
 | [],[]=>true
 | x :: xs,y :: ys=>eqF x y && eqFs xs ys
 | _,_=>false
theorem eqFs_len:∀{xs ys:List Nat},eqFs xs ys=true→xs.length=ys.length
 | [],[],_=>rfl
 | x :: xs,y :: ys,h=>by simp[eqFs] at h;simp[eqFs_len h.2]
 | [],_ :: _,h=>by simp[eqFs] at h
 | _ :: _,[],h=>by simp[eqFs] at h
theorem eqFs_drop{xs ys:List Nat}{k:Nat}(h1:k < xs.length)(h2:k < ys.length):eqFs (xs.drop k) (ys.drop k)=(eqF xs[k] ys[k] && eqFs (xs.drop (k+1)) (ys.drop (k+1))):=by
 rw[List.drop_eq_getElem_cons h1,List.drop_eq_getElem_cons h2]
 rfl
theorem NumsAt.slice{P:Nat→Prop}{w:World}{v:Value}{xs:List Nat}(h:NumsAt P w v xs):∃a cap,v=.slice a xs.length cap∧(∀k,(hk:k < xs.length)→∃b o,a=some ⟨b,o,none⟩∧w.cell? ⟨b,o+k,none⟩=some (.float .f64 xs[k])):=by
 obtain⟨_,a,cap,rfl,_,_,h4⟩:=h
 refine⟨a,cap,rfl,fun k hk=>?_⟩
 obtain⟨b,o,rfl,_,hc⟩:=h4 (by omega)
 exact⟨b,o,rfl,hc k _ (by simp[hk];rfl)⟩
theorem eq186(P1 P2:Nat→Prop)(v1 v2:Value)(xs ys:List Nat)(w:World)(h1:NumsAt P1 w v1 xs)(h2:NumsAt P2 w v2 ys)(hx:xs.length≤100000)(hy:ys.length≤100000):
  Calls Tryz.prog 186 #[v1,v2] w fun e w'=>e=.returned (.bool (eqFs xs ys))∧w=w':=by
 obtain⟨a1,c1,rfl,k1⟩:=h1.slice
 obtain⟨a2,c2,rfl,k2⟩:=h2.slice
 have K1:=zH k1
 have K2:=zH k2
 clear k1 k2 h1 h2
 obtain⟨n,hn⟩:∃n,n=xs.length:=⟨_,rfl⟩
 obtain⟨n2,hn2⟩:∃n,n=ys.length:=⟨_,rfl⟩
 have HN:=zH hn
 have HN2:=zH hn2
 rw[←hn] at hx ⊢
 rw[←hn2] at hy ⊢
 by_cases hne:n=n2
 ·subst hne
  obtain⟨res,hres⟩:∃res,res=eqFs xs ys:=⟨_,rfl⟩
  rw[←hres]
  have HR:=zH hres
  clear hn hn2 hres
  go_enter Tryz.func186,Tryz.ntmps186
  go_wp2_with fail
  go_loop [5,6,14] (fun _ _ iv=>∃k:Nat,k≤n∧iv=.int .i64 k∧Hid (res=eqFs (xs.drop k) (ys.drop k))) (fun _ _ iv=>n - (intOf iv).toNat)
  case atStart=>exact⟨0,Nat.zero_le _,rfl,HR.out⟩
  case round =>
   obtain⟨k,hk,rfl,hr⟩:=hrel
   by_cases hlt:k < n
   ·have e1:k < xs.length:=by rw[←HN.out];exact hlt
    have e2:k < ys.length:=by rw[←HN2.out];exact hlt
    obtain⟨b1,o1,rfl,g1⟩:=K1.out k e1
    obtain⟨b2,o2,rfl,g2⟩:=K2.out k e2
    obtain⟨x,hx'⟩:∃x,x=xs[k]:=⟨_,rfl⟩
    obtain⟨y,hy'⟩:∃y,y=ys[k]:=⟨_,rfl⟩
    rw[←hx'] at g1
    rw[←hy'] at g2
    have HS:Hid (res=(eqF x y && eqFs (xs.drop (k+1)) (ys.drop (k+1)))):=by
     show _=_
     rw[hr.out,eqFs_drop e1 e2,hx',hy']
    clear hx' hy' hr e1 e2
    cases hf:eqF x y with
    | true =>
     have hcmp:(FloatKind.f64.format.order x y != some .eq)=false:=by
      have:(FloatKind.f64.format.order x y == some .eq)=true:=hf
      simp[bne,this]
     have HS2:Hid (res=eqFs (xs.drop (k+1)) (ys.drop (k+1))):=by
      show _=_
      rw[HS.out,hf];rfl
     clear hf HS
     go_wp2_with fail
     go_round
     case rel=>exact⟨k+1,by omega,by go_num,HS2.out⟩
     case measure=>simp[intOf];omega
    | false =>
     have hcmp:(FloatKind.f64.format.order x y != some .eq)=true:=by
      have:(FloatKind.f64.format.order x y == some .eq)=false:=hf
      simp[bne,this]
     have HS2:Hid (res=false):=by
      show _=_
      rw[HS.out,hf];rfl
     clear hf HS
     go_wp2_with fail
     go_ret
     exact⟨by rw[HS2.out];rfl,rfl⟩
   ·have HS2:Hid (res=true):=by
     show _=_
     rw[hr.out,List.drop_of_length_le (by rw[←HN.out];omega),List.drop_of_length_le (by rw[←HN2.out];omega)]
     rfl
    clear hr
    go_wp2_with fail
    go_ret
    exact⟨by rw[HS2.out];rfl,rfl⟩
 ·have HS2:Hid (eqFs xs ys=false):=by
   show _=_
   cases he:eqFs xs ys with
   | false=>rfl
   | true=>exact absurd (eqFs_len he) (by rw[←HN.out,←HN2.out];exact hne)
  have hne2:¬(n:Int)=(n2:Int):=by omega
  clear hn hn2
  go_enter Tryz.func186,Tryz.ntmps186
  go_wp2_with fail
  go_ret
  exact⟨by rw[HS2.out];rfl,rfl⟩
end Go.Proofs.YtnjjgbcmjnfijaaGreatDoor
