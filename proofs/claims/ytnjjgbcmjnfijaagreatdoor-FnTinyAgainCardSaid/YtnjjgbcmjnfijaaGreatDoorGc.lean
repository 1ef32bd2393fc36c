/- The whole as the reference reads it. No condition. -/
import Derived.Test.YtnjjgbcmjnfijaaGreatDoorGa
import Derived.Test.YtnjjgbcmjnfijaaGreatDoorGb
namespace Go.Proofs.YtnjjgbcmjnfijaaGreatDoor
set_option maxRecDepth 100000
set_option maxHeartbeats 8000000
open Go.RowKit
theorem BodyPost.deep{B r lb D D' kind:Nat}{ids:Bool}{l:List UInt8}{any bad unt:Bool}{w:World}{ps Q0:List Int}{dm:Nat}{e:Ending}{w':World}(h:BodyPost B r lb D kind ids l any bad unt w ps Q0 dm e w')(hd:D≤D'):BodyPost B r lb D' kind ids l any bad unt w ps Q0 dm e w':=by
 obtain⟨dm',nv,kv,lv,e,hh⟩:=h
 obtain⟨g,Q,l1,bad1,unt1,is,h1,h2,h3,h4,h5,h6⟩:=hh.out
 exact⟨dm',nv,kv,lv,e,g,Q,l1,bad1,unt1,is,h1,h2,h3,h4,h5.le hd,h6⟩
theorem body_any(B r lb kd:Nat)(ids:Bool)(l:List UInt8)(any bad unt:Bool)(w:World)(hk dm:Nat)(em ix bx:Value)(pb po pc m:Nat)(ps Q0:List Int)(hkd:kd≤6)(hB:B≤w.heap.size)(hrB:B≤r)(hlB:B≤lb)(hne:r≠lb)(hdm:dm≤3)(hm:m=ps.length)
  (hR:RIn (· < B) r w l any bad unt) (hL:RowI lb w Q0) (hQ:Q0.length=ps.length) (hq:∀q∈Q0,-9007199254740992≤q∧q≤9007199254740992) (hps:ps.length≤4) (hps2:2≤ps.length) (hpb:∀p∈ps,-8≤p∧p≤7)
  (hpv:PrecsAt (fun b=>¬RL r lb b) w (.slice (some ⟨pb,po,none⟩) m pc) ps)
  (HW:∀(l2:List UInt8) (bad2 unt2:Bool) (w2:World),l2.length≤l.length→RIn (· < B) r w2 l2 any bad2 unt2→B≤w2.heap.size→Calls Tryz.prog 23 #[.pointer (some ⟨r,0,none⟩)] w2 (WholePost B r l2 any bad2 unt2 w2)) :
  Calls Tryz.prog 48 #[.pointer (some ⟨r,0,none⟩),.int .i64 kd,.agg #[.int .i64 hk,.int .i64 dm,.slice (some ⟨pb,po,none⟩) m pc,em,ix,bx],.bool ids,.slice (some ⟨lb,0,none⟩) m m] w (BodyPost B r lb (l.length+5) kd ids l any bad unt w ps Q0 dm):=by
 have hc:kd=0∨kd=1∨kd=2∨kd=3∨kd=4∨kd=5∨kd=6:=by omega
 rcases hc with rfl|rfl|rfl|rfl|rfl|rfl|rfl
 ·exact (body_0 B r lb ids l any bad unt w hk dm em ix bx pb po pc m ps Q0 hB hlB hne hdm hm hR hL hQ hq hps hps2 hpb hpv HW)
 ·exact (body_pt B r lb ids l any bad unt w hk dm em ix bx pb po pc m ps Q0 hB hlB hne hdm hm hR hL hQ hq hps hps2 hpb hpv).mono fun e w' h=>h.deep (by omega)
 ·exact (body_ln B r lb ids l any bad unt w hk dm em ix bx pb po pc m ps Q0 hB hlB hne hdm hm hR hL hQ hq hps hps2 hpb hpv).mono fun e w' h=>h.deep (by omega)
 ·exact (body_3 B r lb ids l any bad unt w hk dm em ix bx pb po pc m ps Q0 hB hrB hlB hne hdm hm hR hL hQ hq hps hps2 hpb hpv).mono fun e w' h=>h.deep (by omega)
 ·exact (body_4 B r lb ids l any bad unt w hk dm em ix bx pb po pc m ps Q0 hB hlB hne hdm hm hR hL hQ hq hps hps2 hpb hpv).mono fun e w' h=>h.deep (by omega)
 ·exact (body_5 B r lb ids l any bad unt w hk dm em ix bx pb po pc m ps Q0 hB hlB hne hdm hm hR hL hQ hq hps hps2 hpb hpv).mono fun e w' h=>h.deep (by omega)
 ·exact (body_6 B r lb ids l any bad unt w hk dm em ix bx pb po pc m ps Q0 hB hrB hlB hne hdm hm hR hL hQ hq hps hps2 hpb hpv).mono fun e w' h=>h.deep (by omega)
theorem head_open{B r:Nat}{l:List UInt8}{any bad unt:Bool}{w:World}{e:Ending}{w':World}(h:HeadPost B r l any bad unt w e w'):
  ∃(hk dm pg pc m:Nat) (em ix:Bool) (ba:Option Addr) (bt bc:Nat),e=.returned (.agg #[.int .i64 hk,.int .i64 dm,.slice (some ⟨pg,0,none⟩) m pc,.bool em,.bool ix,.slice ba bt bc])∧Hid (HeadPost B r l any bad unt w (.returned (.agg #[.int .i64 hk,.int .i64 dm,.slice (some ⟨pg,0,none⟩) m pc,.bool em,.bool ix,.slice ba bt bc])) w'):=by
 have h2:=h
 obtain⟨kd,dm,pg,pc,m,em,ix,bx,rfl,hh⟩:=h
 obtain⟨ps,l1,bad1,unt1,gs,mt,xy,_,_,_,_,_,_,_,_,_,hbx,_⟩:=hh.out
 obtain⟨ba,bc,rfl,_⟩:=hbx.at
 exact⟨kd,dm,pg,pc,m,em,ix,ba,gs.length,bc,rfl,h2⟩
def z30:Array Value:=#[.int .i64 0,.int .i64 0,.slice none 0 0,.slice none 0 0,.slice none 0 0,.slice none 0 0]
structure WhAt (B r hb:Nat) (l:List UInt8) (any bad unt:Bool) (w:World) (hdc:Array Value) (l1:List UInt8) (bad1 unt1:Bool) (w1:World):Prop where
 st:St (Eq r) (· < B) r l any bad unt w l1 bad1 unt1 w1
 res:w1.heap[w.heap.size]?=some (.cells z30 30 (0,0))
 hd:w1.heap[hb]?=some (.cells hdc 89 (0,0))
 hge:w.heap.size+1≤hb
 rw:r < w.heap.size
 bw:B≤w.heap.size
section
variable {B r hb:Nat}{l:List UInt8}{any bad unt:Bool}{w:World}{hdc:Array Value}{l1 l2:List UInt8}{bad1 unt1 bad2 unt2:Bool}{w1 w2:World}
theorem WhAt.step(h:WhAt B r hb l any bad unt w hdc l1 bad1 unt1 w1)(s:St (Eq r) (· < B) r l1 any bad1 unt1 w1 l2 bad2 unt2 w2):WhAt B r hb l any bad unt w hdc l2 bad2 unt2 w2:=by
 have h1:=h.rw
 have h2:=h.hge
 exact⟨h.st.trans s,(s.fr.block _ (zG h.res).1 (by omega)).trans h.res,(s.fr.block _ (zG h.hd).1 (by omega)).trans h.hd,h.hge,h.rw,h.bw⟩
theorem WhAt.kept(h:WhAt B r hb l any bad unt w hdc l1 bad1 unt1 w1)(f:Fr (fun b=>w.heap.size+1≤b∧b≠hb) w1 w2):WhAt B r hb l any bad unt w hdc l1 bad1 unt1 w2:=by
 have h1:=h.rw
 have h2:=h.bw
 have h3:=(zG h.res).1
 exact⟨⟨h.st.inn.other (f.block r (by omega) (by omega)) (fun b hb=>f.block b (by omega) (by omega)),h.st.fr.transNew f (fun b hb=>.inl (by omega)),h.st.bad,h.st.unt,h.st.len⟩,(f.block _ h3 (by omega)).trans h.res,(f.block _ (zG h.hd).1 (by omega)).trans h.hd,h.hge,h1,h2⟩
theorem WhAt.start{kd dm pg pc m:Nat}{em ix:Bool}{ba:Option Addr}{bt bc:Nat}(hR:RIn (· < B) r w l any bad unt)(hB:B≤w.heap.size){w0 wh:World}(hw0:w0=w.alloc (.cells z30 30))(hh:HeadPost B r l any bad unt w0 (.returned (.agg #[.int .i64 kd,.int .i64 dm,.slice (some ⟨pg,0,none⟩) m pc,.bool em,.bool ix,.slice ba bt bc])) wh):
  ∃(ps:List Int) (l1:List UInt8) (bad1 unt1:Bool) (gs:List G) (mt:Nat) (xy:Int),WhAt B r wh.heap.size l any bad unt w (hdv kd dm pg 0 pc m (.bool em) (.bool ix) (.slice ba bt bc)) l1 bad1 unt1 (wh.alloc (.cells (hdv kd dm pg 0 pc m (.bool em) (.bool ix) (.slice ba bt bc)) 89))∧m=ps.length∧kd≤15∧dm≤3∧PrecsAt (fun b=>w.heap.size+1≤b∧b < wh.heap.size) wh (.slice (some ⟨pg,0,none⟩) m pc) ps∧2≤ps.length∧ps.length≤4∧(∀p∈ps,-8≤p∧p≤7) ∧
   RowsAt (GAt 1) (fun b=>w.heap.size+1≤b∧b < wh.heap.size) 4 wh (.slice ba bt bc) gs∧(bad1=false→unt1=false→l1.length+2≤l.length)∧(bad1=false→unt1=false→(any=false→HeadP l kd mt dm xy ps l1)∧em=(mt / 16 % 2 == 1)∧ix=(mt / 4 % 2 == 1)∧(em=true→mt=16∧1≤kd∧kd≤7)):=by
 have s0:w0.heap.size=w.heap.size+1:=by rw[hw0];show (w.heap.push _).size=_;rw[Array.size_push]
 have f0:ZF w w0:=by rw[hw0];exact (Fr.refl _ w).alloc _
 have e0:w0.heap[w.heap.size]?=some (.cells z30 30 (0,0)):=by rw[hw0];exact zN _ _
 have hrl:=hR.lt
 obtain⟨kd',dm',pg',pc',m',em',ix',bx',he,hx⟩:=hh
 injection he with he
 injection he with he
 have he:=congrArg Array.toList he
 simp only[List.cons.injEq,and_true] at he
 obtain⟨a1,a2,a3,a4,a5,a6⟩:=he
 injection a1 with _ a1
 injection a2 with _ a2
 injection a3 with a3 a7 a8
 injection a3 with a3
 injection a3 with a3
 injection a4 with a4
 injection a5 with a5
 have a1:kd=kd':=by omega
 have a2:dm=dm':=by omega
 subst a1 a2 a3 a4 a5 a6 a7 a8
 obtain⟨ps,l1,bad1,unt1,gs,mt,xy,x1,x2,x3,x4,x5,x6,x7,x8,x9,x10,x11,x12⟩:=hx.out
 have hs:=x4.fr.size
 have fa:Fr (fun b=>False) wh (wh.alloc (.cells (hdv kd dm pg 0 pc m (.bool em) (.bool ix) (.slice ba bt bc)) 89)):=(Fr.refl _ _).alloc _
 refine⟨ps,l1,bad1,unt1,gs,mt,xy,⟨⟨x4.inn.fr fa (by simp) (by simp) (by omega),((f0.weak (by simp)).trans x4.fr).trans (fa.weak (by simp)),x4.bad,x4.unt,x4.len⟩,(fa.block _ (by omega) (by simp)).trans ((x4.fr.block _ (by omega) (by omega)).trans e0),zN _ _,by omega,hrl,hB⟩,x1,x2,x3,?_,x6,x7,x8,?_,x11,x12⟩
 ·exact CellsAt.mono x5 (by decide) (fun b hb hl=>⟨by omega,hl⟩)
 ·exact x10.mono (GAt.kp 1) (by decide) (fun b hb hl=>⟨by omega,hl⟩)
theorem WhAt.post(h:WhAt B r hb l any bad unt w hdc l1 bad1 unt1 w1){kd dm:Nat}{na:Option Addr}{nt nc:Nat}{ma:Option Addr}{mt mc:Nat}{ba:Option Addr}{bt bc:Nat}{la:Option Addr}{ln lc:Nat}{g:G}{gs:List G}{is:List Int}
  (hg:GAt (l.length+4) (fun b=>w.heap.size+1≤b) w1 [.int .i64 kd,.int .i64 dm,.slice na nt nc,.slice ma mt mc] g) (hgs:RowsAt (GAt 1) (fun b=>w.heap.size+1≤b) 4 w1 (.slice ba bt bc) gs) (his:IntsAt (fun b=>w.heap.size+1≤b) w1 (.slice la ln lc) is)
  (hs:bad1=false→unt1=false→any=false→∃(kind meta_ dim:Nat) (xy:Int) (ps:List Int) (l0:List UInt8),HeadP l kind meta_ dim xy ps l0∧1≤kind∧kind≤7∧g.kind=(if kind=7 then 0 else kind:Nat)∧(meta_ / 16 % 2=1→g=.mk (if kind=7 then 0 else kind:Nat) 0 [] []) ∧
    (meta_ / 16 % 2≠1→(∀p∈ps,0≤p)→kind≤6→∃s,BodyP 4096 kind (meta_ / 4 % 2 == 1) ps (ps.map fun _=>0) l0 s is l1∧g=toG kind dim s)) :
  WholePost B r l any bad unt w (.returned (.agg #[.int .i64 kd,.int .i64 dm,.slice na nt nc,.slice ma mt mc,.slice ba bt bc,.slice la ln lc])) ((((((w1.setCell ⟨w.heap.size,0,none⟩ (.int .i64 kd)).setCell ⟨w.heap.size,1,none⟩ (.int .i64 dm)).setCell ⟨w.heap.size,2,none⟩ (.slice na nt nc)).setCell ⟨w.heap.size,3,none⟩ (.slice ma mt mc)).setCell ⟨w.heap.size,4,none⟩ (.slice ba bt bc)).setCell ⟨w.heap.size,5,none⟩ (.slice la ln lc)):=by
 have f:=fr6 w1 w.heap.size (.int .i64 kd) (.int .i64 dm) (.slice na nt nc) (.slice ma mt mc) (.slice ba bt bc) (.slice la ln lc)
 have h1:=h.rw
 have h2:=h.bw
 have hE:=GAt.kp (l.length+4)
 have hw:=h.st.fr.size
 refine⟨kd,dm,na,nt,nc,ma,mt,mc,ba,bt,bc,la,ln,lc,rfl,g,l1,bad1,unt1,gs,is,⟨h.st.inn.other (f.block r (by omega) (by omega)) (fun b hb=>f.block b (by omega) (by omega)),h.st.fr.transNew f (fun b hb=>.inl (by omega)),h.st.bad,h.st.unt,h.st.len⟩,?_,?_,?_,hs⟩
 ·exact hE.mono (fun b hb _=>by omega) (hE.kept (fun b hb hl=>f.block b hl (by omega)) hg)
 ·exact (hgs.kept (GAt.kp 1) (fun b hb hl=>f.block b hl (by omega))).mono (GAt.kp 1) (by decide) (fun b hb _=>by omega)
 ·exact (CellsAt.kept his (fun b hb hl=>f.block b hl (by omega))).mono (by decide) (fun b hb _=>by omega)
end
def zi (m:Nat):Array Value:=((List.replicate m (0:Int)).map iv).toArray
theorem zi_made(m:Nat):madeCells (Value.int .i64 0).cells m=zi m:=by
 apply Array.toList_inj.1
 have:=toList_madeCells_one (.int .i64 0) m
 unfold zi
 rw[List.map_replicate]
 exact this
theorem mk77(m:Nat)(hm:m≤4)(w:World):(Instr.makeSlice 77 (.int .i64 m) (.int .i64 m)).run Tryz.prog w=.ok (.slice (some ⟨w.heap.size,0,none⟩) m m) (w.alloc (.cells (zi m) 3)):=by
 obtain⟨j0,hj0,jz0,jz1,jz2⟩:=info_parts info3
 have:=run_make (P:=Tryz.prog) w 77 3 j0 (.int .i64 0) Tryz.underlying77 hj0 jz0 .i64 .i64 m m (by omega) (Int.le_refl _) (by rw[jz2];omega) (by omega)
 rw[this,jz1,Nat.mul_one,Int.toNat_natCast,zi_made]
def BdDone (B r hb kk:Nat) (ix:Bool) (l:List UInt8) (any bad unt:Bool) (w:World) (hdc:Array Value) (l1:List UInt8) (ps:List Int) (dm:Nat) (gs:List G) (bx:Value) (gb d':Nat) (nv kv lv:Value) (wr:World):Prop :=
 ∃(l2:List UInt8) (bad2 unt2:Bool) (g:G) (is:List Int),WhAt B r hb l any bad unt w hdc l2 bad2 unt2 wr∧wr.heap[gb]?=some (.cells #[.int .i64 kk,.int .i64 d',nv,kv] 27 (0,0))∧GAt (l.length+4) (fun b=>w.heap.size+1≤b) wr [.int .i64 kk,.int .i64 d',nv,kv] g∧IntsAt (fun b=>w.heap.size+1≤b) wr lv is∧RowsAt (GAt 1) (fun b=>w.heap.size+1≤b) 4 wr bx gs∧g.kind=kk ∧
  (bad2=false→unt2=false→(∀p∈ps,0≤p)→1≤kk→∃s,BodyP 4096 kk ix ps (ps.map fun _=>0) l1 s is l2∧g=toG kk dm s)
theorem GAt.kind_eq{D:Nat}{P:Nat→Prop}{w:World}{k:Int}{c1 c2 c3:Value}{g:G}(h:GAt D P w [.int .i64 k,c1,c2,c3] g):g.kind=k:=by
 cases D with
 | zero=>exact h.elim
 | succ D =>
  obtain⟨nv,kv,e,_⟩:=h
  injection e with e
  injection e with _ e
  exact e.symm
theorem bd_done{B r hb kk:Nat}{ix:Bool}{l:List UInt8}{any bad unt:Bool}{w:World}{hdc:Array Value}{l1:List UInt8}{ps:List Int}{dm:Nat}{gs:List G}{bx:Value}{gb d' lb:Nat}{nv kv lv:Value}{wc W w2 wr:World}
  (h:WhAt B r hb l any bad unt w hdc l1 false false wc) (hW:ZF wc W) (hlb:wc.heap.size≤lb) (hp:BodyPost B r lb (l1.length+5) kk ix l1 any false false W ps (ps.map fun _=>0) dm (.returned (.tuple #[.agg #[.int .i64 kk,.int .i64 d',nv,kv],lv])) w2)
  (f:Fr (fun b=>b=gb) w2 wr) (hgb:wc.heap.size≤gb) (hnot:∀b,W.heap.size≤b→b < w2.heap.size→b≠gb) (hcell:wr.heap[gb]?=some (.cells #[.int .i64 kk,.int .i64 d',nv,kv] 27 (0,0))) (hl:l1.length+2≤l.length) (hk:kk≤6)
  (hbx:RowsAt (GAt 1) (fun b=>w.heap.size+1≤b∧b < wc.heap.size) 4 wc bx gs) :
  BdDone B r hb kk ix l any bad unt w hdc l1 ps dm gs bx gb d' nv kv lv wr:=by
 obtain⟨d9,nv9,kv9,lv9,he,hh⟩:=hp
 injection he with he
 injection he with he
 have he:=congrArg Array.toList he
 simp only[List.cons.injEq,and_true] at he
 obtain⟨he,hlv⟩:=he
 injection he with he
 have he:=congrArg Array.toList he
 simp only[List.cons.injEq,and_true,true_and] at he
 obtain⟨a2,a3,a4⟩:=he
 injection a2 with _ a2
 have a2:d'=d9:=by omega
 subst a2 a3 a4 hlv
 obtain⟨g,Q,l2,bad2,unt2,is,s1,s2,s3,s4,s5,s6,s7⟩:=hh.out
 have e1:=h.rw
 have e2:=h.bw
 have e3:=h.hge
 have e4:=h.st.fr.size
 have e5:=(zG h.res).1
 have e6:=(zG h.hd).1
 have e7:=hW.size
 have e8:=s1.fr.size
 have k:∀b,b < wc.heap.size→b≠r→wr.heap[b]?=wc.heap[b]?:=fun b h1 h2=>(f.block b (by omega) (by omega)).trans ((s1.fr.block b (by omega) (by rintro (e|e)<;>omega)).trans (hW.block b h1 (by simp)))
 have hE:=GAt.kp (l.length+4)
 refine⟨l2,bad2,unt2,g,is,⟨⟨s1.inn.other (f.block r (by omega) (by omega)) (fun b hb=>f.block b (by omega) (by omega)),?_,fun e=>s1.bad (by cases h.st.bad e),fun e=>s1.unt (by cases h.st.unt e),Nat.le_trans s1.len h.st.len⟩,(k _ e5 (by omega)).trans h.res,(k _ e6 (by omega)).trans h.hd,h.hge,h.rw,h.bw⟩,hcell,?_,?_,?_,s5.kind_eq,fun b1 b2 hp h1=>?_⟩
 ·have f1:Fr (fun b=>b=r∨wc.heap.size≤b) wc wr:=((hW.weak (by simp)).trans (s1.fr.weak (fun b hb=>by rcases hb with e|e<;>omega))).trans (f.weak (fun b hb=>by omega))
  exact h.st.fr.transNew f1 (fun b hb=>by
   rcases hb with e|e
   ·exact .inr e.symm
   ·exact .inl (by omega))
 ·exact hE.mono (P:=fun b=>W.heap.size≤b∧b < w2.heap.size) (fun b hb _=>by omega) (hE.kept (w:=w2) (fun b hb hl=>f.block b hl (hnot b hb.1 hl)) (hE.mono (fun b hb hl=>⟨hb,hl⟩) (s5.le (by omega))))
 ·exact (CellsAt.kept (w:=w2) (CellsAt.mono (Q:=fun b=>W.heap.size≤b∧b < w2.heap.size) s6 (by decide) (fun b hb hl=>⟨hb,hl⟩)) (fun b hb hl=>f.block b hl (hnot b hb.1 hl))).mono (by decide) (fun b hb _=>by omega)
 ·exact (hbx.kept (GAt.kp 1) (w':=wr) (fun b hb hl=>k b hl (by omega))).mono (GAt.kp 1) (by decide) (fun b hb _=>by omega)
 ·obtain⟨s,t1,t2⟩:=s7 b1 b2 hp h1 hk
  exact⟨s,⟨Q,t1⟩,t2⟩
theorem body_open{B r lb D kk:Nat}{ids:Bool}{l:List UInt8}{any bad unt:Bool}{w:World}{ps Q0:List Int}{dm:Nat}{e:Ending}{w':World}(h:BodyPost B r lb D kk ids l any bad unt w ps Q0 dm e w'):
  ∃(d':Nat) (a:Option Addr) (t c:Nat) (a2:Option Addr) (t2 c2:Nat) (la:Option Addr) (ln lc:Nat),e=.returned (.tuple #[.agg #[.int .i64 kk,.int .i64 d',.slice a t c,.slice a2 t2 c2],.slice la ln lc])∧Hid (BodyPost B r lb D kk ids l any bad unt w ps Q0 dm (.returned (.tuple #[.agg #[.int .i64 kk,.int .i64 d',.slice a t c,.slice a2 t2 c2],.slice la ln lc])) w')∧Fr (RL r lb) w w':=by
 have h2:=h
 obtain⟨d',nv,kv,lv,rfl,hh⟩:=h
 obtain⟨g,Q,l1,bad1,unt1,is,s1,s2,s3,s4,s5,s6,s7⟩:=hh.out
 cases D with
 | zero=>exact s5.elim
 | succ D =>
  obtain⟨nv',kv',e1,e2,e3,_⟩:=s5
  injection e1 with e4 e1
  injection e1 with e5 e1
  injection e1 with e6 e1
  injection e1 with e7 e1
  subst e6 e7
  obtain⟨_,a,c,e8,_⟩:=e2
  obtain⟨a2,c2,e9,_⟩:=e3.at
  obtain⟨_,la,lc,e10,_⟩:=s6
  subst e8 e9 e10
  exact⟨d',a,_,c,a2,_,c2,la,_,lc,rfl,h2,s1.fr⟩
theorem whole_step(B r:Nat)(l:List UInt8)(any bad unt:Bool)(w:World)(hB:B≤w.heap.size)(hrB:B≤r)(hll:l.length≤1000000)(hR:RIn (· < B) r w l any bad unt)
  (IH:∀(l2:List UInt8) (bad2 unt2:Bool) (w2:World),l2.length+2≤l.length→RIn (· < B) r w2 l2 any bad2 unt2→B≤w2.heap.size→Calls Tryz.prog 23 #[.pointer (some ⟨r,0,none⟩)] w2 (WholePost B r l2 any bad2 unt2 w2)) :
  Calls Tryz.prog 23 #[.pointer (some ⟨r,0,none⟩)] w (WholePost B r l any bad unt w):=by
 obtain⟨w0,hw0⟩:∃w0,w0=w.alloc (.cells z30 30):=⟨_,rfl⟩
 have hrl:=hR.lt
 have s0:w0.heap.size=w.heap.size+1:=by rw[hw0];show (w.heap.push _).size=_;rw[Array.size_push]
 have H0:Hid (RIn (· < B) r w0 l any bad unt):=by rw[hw0];exact hR.fr (R:=fun _=>False) ((Fr.refl _ w).alloc _) (by simp) (by simp) hB
 have HW0:=zH hw0
 have HR:=zH hR
 have C47:=zH (head47 B r l any bad unt w0 (by omega) hll H0.out)
 have IHH:=zH IH
 clear hw0 s0 hR IH
 go_enter Tryz.func23,Tryz.ntmps23
 go_upto_region 1 with fail
 have e0:w.alloc (.cells #[.int .i64 0,.int .i64 0,.slice none 0 0,.slice none 0 0,.slice none 0 0,.slice none 0 0] 30)=w0:=HW0.out.symm
 rw[e0]
 clear e0
 go_upto_region 2 with (go_at_call 47;refine C47.out.mono ?_;rintro e wh hp;obtain⟨hk,dm,pg,pc,m,em,ix,ba,bt,bc,rfl,hh⟩:=head_open hp;clear hp)
 obtain⟨ps,l1,bad1,unt1,gs,mt,xy,hA,hm,hk15,hdm,hpv,hp2,hp4,hpb,hbx,hlen,hsucc⟩:=WhAt.start HR.out hB HW0.out hh.out
 have HA:=zH hA
 have HM:=zH hm
 have HPV:=zH hpv
 have HPB:=zH hpb
 have HBX:=zH hbx
 have HLEN:=zH hlen
 have HSU:=zH hsucc
 obtain⟨w1,hw1⟩:∃w1,w1=wh.alloc (.cells (hdv hk dm pg 0 pc m (.bool em) (.bool ix) (.slice ba bt bc)) 89):=⟨_,rfl⟩
 rw[←hw1] at HA
 have e1:wh.alloc (.cells #[.int .i64 hk,.int .i64 dm,.slice (some ⟨pg,0,none⟩) m pc,.bool em,.bool ix,.slice ba bt bc] 89)=w1:=hw1.symm
 rw[e1]
 have HW1:=zH hw1
 clear e1 hA hm hpv hpb hbx hlen hsucc hh C47 H0 hw1
 obtain⟨d0,d1,d2,d3,d4,d5⟩:=hd_cells HA.out.hd
 have c2:=HA.out.st.inn.c2
 have f2:=HA.out.st.inn.fz 2
 obtain⟨z7,hz7⟩:∃z,((hk:Int) == 7)=z:=⟨_,rfl⟩
 obtain⟨z1,hz1⟩:∃z,decide ((hk:Int) < 1)=z:=⟨_,rfl⟩
 obtain⟨z8,hz8⟩:∃z,decide (7 < (hk:Int))=z:=⟨_,rfl⟩
 have HZ:=zH (⟨hz7,hz1,hz8⟩:_∧_∧_)
 go_upto_if 12 with fail
 go_cut [4] from 13 to 21 (fun kv wr=>∃(kk:Nat) (bad2:Bool),kv=.int .i64 kk∧Hid (WhAt B r wh.heap.size l any bad unt w (hdv hk dm pg 0 pc m (.bool em) (.bool ix) (.slice ba bt bc)) l1 bad2 unt1 wr∧Fr (fun b=>b=r) w1 wr∧(bad2=false→bad1=false∧1≤hk∧hk≤7∧kk=(if hk=7 then 0 else hk))))
 case first =>
  have RB:Hid (WhAt B r wh.heap.size l any bad unt w (hdv hk dm pg 0 pc m (.bool em) (.bool ix) (.slice ba bt bc)) l1 true unt1 (w1.setCell ⟨r,2,none⟩ (.bool true))∧Fr (fun b=>b=r) w1 (w1.setCell ⟨r,2,none⟩ (.bool true))):=⟨HA.out.step ((St.refl HA.out.st.inn).setBad rfl),(Fr.refl _ _).setR _ rfl⟩
  cases z7 with
  | true =>
   have RS:Hid (WhAt B r wh.heap.size l any bad unt w (hdv hk dm pg 0 pc m (.bool em) (.bool ix) (.slice ba bt bc)) l1 bad1 unt1 w1∧Fr (fun b=>b=r) w1 w1∧(bad1=false→bad1=false∧1≤hk∧hk≤7∧0=(if hk=7 then 0 else hk))):=⟨HA.out,Fr.refl _ _,fun h=>by
    have h7:hk=7:=by have:=HZ.out.1;simp at this;omega
    exact⟨h,by omega,by omega,by rw[if_pos h7]⟩⟩
   go_wp2_with fail
   go_meet
   exact⟨0,bad1,rfl,RS.out⟩
  | false =>
   cases z1 with
   | true =>
    go_wp2_with fail
    go_meet
    exact⟨hk,true,rfl,RB.out.1,RB.out.2,fun h=>by cases h⟩
   | false =>
    cases z8 with
    | true =>
     go_wp2_with fail
     go_meet
     exact⟨hk,true,rfl,RB.out.1,RB.out.2,fun h=>by cases h⟩
    | false =>
     have RS:Hid (WhAt B r wh.heap.size l any bad unt w (hdv hk dm pg 0 pc m (.bool em) (.bool ix) (.slice ba bt bc)) l1 bad1 unt1 w1∧Fr (fun b=>b=r) w1 w1∧(bad1=false→bad1=false∧1≤hk∧hk≤7∧hk=(if hk=7 then 0 else hk))):=⟨HA.out,Fr.refl _ _,fun h=>by
      obtain⟨k7,k1,k8⟩:=HZ.out
      simp at k7 k1 k8
      have h7:¬hk=7:=by omega
      exact⟨h,by omega,by omega,by rw[if_neg h7]⟩⟩
     go_wp2_with fail
     go_meet
     exact⟨hk,bad1,rfl,RS.out⟩
 case rest =>
  obtain⟨kk,bad2,rfl,hB2⟩:=hcut
  clear d0 d1 d2 d3 d4 d5 c2 f2 hz7 hz1 hz8
  obtain⟨d0,d1,d2,d3,d4,d5⟩:=hd_cells hB2.out.1.hd
  have c2:=hB2.out.1.st.inn.c2
  have c3:=hB2.out.1.st.inn.c3
  have r0:wc.cell? ⟨w.heap.size,0,none⟩=some (.int .i64 0):=by rw[zC hB2.out.1.res];rfl
  have r1:wc.cell? ⟨w.heap.size,1,none⟩=some (.int .i64 0):=by rw[zC hB2.out.1.res];rfl
  have r2:wc.cell? ⟨w.heap.size,2,none⟩=some (.slice none 0 0):=by rw[zC hB2.out.1.res];rfl
  have r3:wc.cell? ⟨w.heap.size,3,none⟩=some (.slice none 0 0):=by rw[zC hB2.out.1.res];rfl
  have r4:wc.cell? ⟨w.heap.size,4,none⟩=some (.slice none 0 0):=by rw[zC hB2.out.1.res];rfl
  have r5:wc.cell? ⟨w.heap.size,5,none⟩=some (.slice none 0 0):=by rw[zC hB2.out.1.res];rfl
  have rf:∀i,wc.frozen? ⟨w.heap.size,i,none⟩=false:=fun i=>zF hB2.out.1.res i
  have gz:∀kd:Nat,kd≤15→GAt (l.length+4) (fun b=>w.heap.size+1≤b) wc [.int .i64 kd,.int .i64 (0:Nat),.slice none 0 0,.slice none 0 0] (.mk kd 0 [] []):=fun kd hkd=>⟨_,_,rfl,⟨rfl,none,0,rfl,Nat.le_refl _,fun _=>⟨rfl,rfl⟩,fun h=>by simp[G.nums] at h⟩,RowsAt.nil,Nat.zero_le _,Nat.zero_le _,Int.natCast_nonneg _,by show (kd:Int)≤15;omega,by show (0:Int)≤0;decide,by show (0:Int)≤3;decide⟩
  have nz:IntsAt (fun b=>w.heap.size+1≤b) wc (.slice none 0 0) []:=⟨rfl,none,0,rfl,Nat.le_refl _,fun _=>⟨rfl,rfl⟩,fun h=>by simp at h⟩
  have ZR:Hid ((bad2=true∨unt1=true)→WholePost B r l any bad unt w (.returned (.agg #[.int .i64 0,.int .i64 0,.slice none 0 0,.slice none 0 0,.slice none 0 0,.slice none 0 0])) ((((((wc.setCell ⟨w.heap.size,0,none⟩ (.int .i64 0)).setCell ⟨w.heap.size,1,none⟩ (.int .i64 0)).setCell ⟨w.heap.size,2,none⟩ (.slice none 0 0)).setCell ⟨w.heap.size,3,none⟩ (.slice none 0 0)).setCell ⟨w.heap.size,4,none⟩ (.slice none 0 0)).setCell ⟨w.heap.size,5,none⟩ (.slice none 0 0))):=fun hx=>hB2.out.1.post (kd:=0) (dm:=0) (gz 0 (by omega)) RowsAt.nil nz (fun e1 e2=>by
   rcases hx with hx|hx
   ·rw[hx] at e1;cases e1
   ·rw[hx] at e2;cases e2)
  have GZ:=zH gz
  have NZ:=zH nz
  clear gz nz
  cases bad2 with
  | true =>
   have hfin:=zH (ZR.out (.inl rfl))
   clear ZR
   go_wp2_with fail
   exact bodyPost_ret (v:=.agg #[.int .i64 0,.int .i64 0,.slice none 0 0,.slice none 0 0,.slice none 0 0,.slice none 0 0]) (by simp[results,Tryz.f23,go_sem,r0,r1,r2,r3,r4,r5]) rfl hfin.out
  | false =>
   cases unt1 with
   | true =>
    have hfin:=zH (ZR.out (.inr rfl))
    clear ZR
    go_wp2_with fail
    exact bodyPost_ret (v:=.agg #[.int .i64 0,.int .i64 0,.slice none 0 0,.slice none 0 0,.slice none 0 0,.slice none 0 0]) (by simp[results,Tryz.f23,go_sem,r0,r1,r2,r3,r4,r5]) rfl hfin.out
   | false =>
    clear ZR
    obtain⟨-,hFr,hOk⟩:=hB2.out
    obtain⟨hb1,hk1,hk7,hkk⟩:=hOk rfl
    have HFr:=zH hFr
    have HKK:=zH hkk
    have hkk6:kk≤6:=by rw[hkk];split<;>omega
    obtain⟨hsu1,hsu2,hsu3,hsu4⟩:=HSU.out hb1 rfl
    have HLE:=zH (HLEN.out hb1 rfl)
    have HS1:=zH hsu1
    have HEM:=zH hsu2
    have HIX:=zH hsu3
    have HEM4:=zH hsu4
    clear hFr hOk hkk hsu1 hsu2 hsu3 hsu4 hb1
    cases em with
    | true =>
     have hfin:Hid (WholePost B r l any bad unt w (.returned (.agg #[.int .i64 kk,.int .i64 0,.slice none 0 0,.slice none 0 0,.slice none 0 0,.slice none 0 0])) ((((((wc.setCell ⟨w.heap.size,0,none⟩ (.int .i64 kk)).setCell ⟨w.heap.size,1,none⟩ (.int .i64 0)).setCell ⟨w.heap.size,2,none⟩ (.slice none 0 0)).setCell ⟨w.heap.size,3,none⟩ (.slice none 0 0)).setCell ⟨w.heap.size,4,none⟩ (.slice none 0 0)).setCell ⟨w.heap.size,5,none⟩ (.slice none 0 0))):=hB2.out.1.post (kd:=kk) (dm:=0) (GZ.out kk (by omega)) RowsAt.nil NZ.out (fun _ _ ha=>⟨hk,mt,dm,xy,ps,l1,HS1.out ha,hk1,hk7,by rw[←HKK.out];rfl,fun _=>by rw[←HKK.out],fun h=>absurd (by have:=HEM.out;simpa using this) h⟩)
     go_wp2_with fail
     exact bodyPost_ret (v:=.agg #[.int .i64 kk,.int .i64 0,.slice none 0 0,.slice none 0 0,.slice none 0 0,.slice none 0 0]) (by simp[results,Tryz.f23,go_sem,r0,r1,r2,r3,r4,r5]) rfl hfin.out
    | false =>
     have hszs:wh.heap.size+1≤wc.heap.size:=by
      have h1:=HFr.out.size
      have h2:w1.heap.size=wh.heap.size+1:=by rw[HW1.out];show (wh.heap.push _).size=_;rw[Array.size_push]
      omega
     have hwh:w.heap.size+1≤wh.heap.size:=hB2.out.1.hge
     have kwh:∀b,b < wh.heap.size→b≠r→wc.heap[b]?=wh.heap[b]?:=fun b h1 h2=>(HFr.out.block b (by rw[HW1.out];show b < (wh.heap.push _).size;rw[Array.size_push];omega) h2).trans (by rw[HW1.out];exact Below.heap_alloc wh _ b h1)
     have HBX2:Hid (RowsAt (GAt 1) (fun b=>w.heap.size+1≤b∧b < wc.heap.size) 4 wc (.slice ba bt bc) gs):=(HBX.out.kept (GAt.kp 1) (w':=wc) (fun b hb hl=>kwh b hl (by omega))).mono (GAt.kp 1) (by decide) (fun b hb _=>by omega)
     have C48:Hid (∀(W:World) (lb:Nat),ZF wc W→W.heap[lb]?=some (.cells (zi m) 3 (0,0))→wc.heap.size≤lb→Calls Tryz.prog 48 #[.pointer (some ⟨r,0,none⟩),.int .i64 kk,.agg #[.int .i64 hk,.int .i64 dm,.slice (some ⟨pg,0,none⟩) m pc,.bool false,.bool ix,.slice ba bt bc],.bool ix,.slice (some ⟨lb,0,none⟩) m m] W (BodyPost B r lb (l1.length+5) kk ix l1 any false false W ps (ps.map fun _=>0) dm)):=by
      intro W lb hW hlb hlb2
      have hsW:=hW.size
      have hBc:B≤wc.heap.size:=by have:=hB2.out.1.bw;omega
      have hrw:=hB2.out.1.rw
      refine body_any B r lb kk ix l1 any false false W hk dm (.bool false) (.bool ix) (.slice ba bt bc) pg 0 pc m ps (ps.map fun _=>0) hkk6 (by omega) hrB (by omega) (by omega) hdm HM.out (hB2.out.1.st.inn.fr hW (by simp) (by simp) hBc) ?_ (by simp) (fun q hq=>by simp at hq;omega) hp4 hp2 HPB.out ?_ (fun l2 bad2 unt2 w2 h1 h2 h3=>IHH.out l2 bad2 unt2 w2 (by have:=HLE.out;omega) h2 h3)
      ·unfold RowI
       rw[hlb]
       unfold zi
       rw[HM.out,List.map_const']
       rfl
      ·exact (CellsAt.kept (w:=wc) (CellsAt.kept (w:=wh) HPV.out (fun b hb hl=>kwh b hl (by omega))) (fun b hb hl=>hW.block b hl (by simp))).mono (by decide) (fun b hb _=>by rintro (e|e)<;>omega)
     have z1s:∀(o:Obj),(wc.alloc o).heap.size=wc.heap.size+1:=fun o=>by show (wc.heap.push _).size=_;rw[Array.size_push]
     have C1:=zH (C48.out (wc.alloc (.cells (zi m) 3)).drew wc.heap.size (((Fr.refl _ _).alloc _).drew) (zN wc _) (Nat.le_refl _))
     have C2:=zH (C48.out ((wc.alloc (.cells (zi m) 3)).alloc (.cells #[.int .i64 0,.int .i64 0,.slice none 0 0,.slice none 0 0] 27)).drew wc.heap.size ((((Fr.refl _ _).alloc _).alloc _).drew) ((Below.heap_alloc (wc.alloc (.cells (zi m) 3)) _ _ (by rw[z1s];omega)).trans (zN wc _)) (Nat.le_refl _))
     have C3:=zH (C48.out ((wc.alloc (.cells #[.int .i64 0,.int .i64 0,.slice none 0 0,.slice none 0 0] 27)).alloc (.cells (zi m) 3)).drew (wc.heap.size+1) ((((Fr.refl _ _).alloc _).alloc _).drew) (by have:=zN (wc.alloc (.cells #[.int .i64 0,.int .i64 0,.slice none 0 0,.slice none 0 0] 27)) (.cells (zi m) 3);rw[z1s] at this;exact this) (by omega))
     have hmk:=mk77 m (by rw[HM.out];exact hp4)
     have hrw:=hB2.out.1.rw
     have GB2:Hid (∀w2,Fr (RL r wc.heap.size) ((wc.alloc (.cells (zi m) 3)).alloc (.cells #[.int .i64 0,.int .i64 0,.slice none 0 0,.slice none 0 0] 27)).drew w2→w2.heap[wc.heap.size+1]?=some (.cells #[.int .i64 0,.int .i64 0,.slice none 0 0,.slice none 0 0] 27 (0,0))):=fun w2 f=>by
      have h0:=zN (wc.alloc (.cells (zi m) 3)) (.cells #[.int .i64 0,.int .i64 0,.slice none 0 0,.slice none 0 0] 27)
      rw[z1s] at h0
      exact (f.block _ (zG h0).1 (by rintro (e|e)<;>omega)).trans h0
     have GB3:Hid (∀w2,Fr (RL r (wc.heap.size+1)) ((wc.alloc (.cells #[.int .i64 0,.int .i64 0,.slice none 0 0,.slice none 0 0] 27)).alloc (.cells (zi m) 3)).drew w2→w2.heap[wc.heap.size]?=some (.cells #[.int .i64 0,.int .i64 0,.slice none 0 0,.slice none 0 0] 27 (0,0))):=fun w2 f=>by
      have h0:((wc.alloc (.cells #[.int .i64 0,.int .i64 0,.slice none 0 0,.slice none 0 0] 27)).alloc (.cells (zi m) 3)).drew.heap[wc.heap.size]?=_:=(Below.heap_alloc (wc.alloc (.cells #[.int .i64 0,.int .i64 0,.slice none 0 0,.slice none 0 0] 27)) _ _ (by rw[z1s];omega)).trans (zN wc _)
      exact (f.block _ (zG h0).1 (by rintro (e|e)<;>omega)).trans h0
     go_upto_region 11 with fail
     clear r0 r1 r2 r3 r4 r5 rf c2 c3 GZ NZ
     have hbl:=(zG hB2.out.1.hd).1
     have KH1:Hid (∀w2,Fr (RL r wc.heap.size) (wc.alloc (.cells (zi m) 3)).drew w2→w2.heap[wh.heap.size]?=some (.cells (hdv hk dm pg 0 pc m (.bool false) (.bool ix) (.slice ba bt bc)) 89 (0,0))):=fun w2 f=>(f.block _ (by show _ < (wc.heap.push _).size;rw[Array.size_push];omega) (by rintro (e|e)<;>omega)).trans ((Below.heap_alloc wc _ _ hbl).trans hB2.out.1.hd)
     have KH2:Hid (∀w2,Fr (RL r wc.heap.size) ((wc.alloc (.cells (zi m) 3)).alloc (.cells #[.int .i64 0,.int .i64 0,.slice none 0 0,.slice none 0 0] 27)).drew w2→w2.heap[wh.heap.size]?=some (.cells (hdv hk dm pg 0 pc m (.bool false) (.bool ix) (.slice ba bt bc)) 89 (0,0))):=fun w2 f=>(f.block _ (by show _ < ((wc.alloc _).heap.push _).size;rw[Array.size_push,z1s];omega) (by rintro (e|e)<;>omega)).trans ((Below.heap_alloc (wc.alloc _) _ _ (by rw[z1s];omega)).trans ((Below.heap_alloc wc _ _ hbl).trans hB2.out.1.hd))
     have KH3:Hid (∀w2,Fr (RL r (wc.heap.size+1)) ((wc.alloc (.cells #[.int .i64 0,.int .i64 0,.slice none 0 0,.slice none 0 0] 27)).alloc (.cells (zi m) 3)).drew w2→w2.heap[wh.heap.size]?=some (.cells (hdv hk dm pg 0 pc m (.bool false) (.bool ix) (.slice ba bt bc)) 89 (0,0))):=fun w2 f=>(f.block _ (by show _ < ((wc.alloc _).heap.push _).size;rw[Array.size_push,z1s];omega) (by rintro (e|e)<;>omega)).trans ((Below.heap_alloc (wc.alloc _) _ _ (by rw[z1s];omega)).trans ((Below.heap_alloc wc _ _ hbl).trans hB2.out.1.hd))
     have nn1:¬wc.heap.size=wh.heap.size:=by omega
     have nn2:¬wc.heap.size+1=wh.heap.size:=by omega
     have nn3:¬wh.heap.size=wc.heap.size:=by omega
     have nn4:¬wh.heap.size=wc.heap.size+1:=by omega
     have hnew:∀(o:Obj) (i:Nat),(wc.alloc o).cell? ⟨wh.heap.size,i,none⟩=wc.cell? ⟨wh.heap.size,i,none⟩:=fun o i=>World.cell?_of_block (Below.heap_alloc wc o wh.heap.size (by omega))
     go_region_held3 (fun w'=>w'.cell? ⟨wh.heap.size,0,none⟩=some (.int .i64 hk)∧w'.cell? ⟨wh.heap.size,1,none⟩=some (.int .i64 dm)∧w'.cell? ⟨wh.heap.size,2,none⟩=some (.slice (some ⟨pg,0,none⟩) m pc)∧w'.cell? ⟨wh.heap.size,3,none⟩=some (.bool false)∧w'.cell? ⟨wh.heap.size,4,none⟩=some (.bool ix)∧w'.cell? ⟨wh.heap.size,5,none⟩=some (.slice ba bt bc)) (go_keep) (first|(go_at_call 48;(with_reducible refine C1.out.mono ?_);rintro e w2 hp;obtain⟨d',na,nt,nc,ma,mt2,mc,la,ln,lc,rfl,hpp,hfr⟩:=body_open hp;clear hp;obtain⟨e0,e1,e2,e3,e4,e5⟩:=hd_cells (KH1.out _ hfr);have nn5:=World.new_ne w2 _ e0;have nn6:=Ne.symm nn5)|(go_at_call 48;(with_reducible refine C2.out.mono ?_);rintro e w2 hp;obtain⟨d',na,nt,nc,ma,mt2,mc,la,ln,lc,rfl,hpp,hfr⟩:=body_open hp;clear hp;obtain⟨e0,e1,e2,e3,e4,e5⟩:=hd_cells (KH2.out _ hfr);obtain⟨g0,g1,g2,g3,gf⟩:=g_cells (GB2.out _ hfr))|(go_at_call 48;(with_reducible refine C3.out.mono ?_);rintro e w2 hp;obtain⟨d',na,nt,nc,ma,mt2,mc,la,ln,lc,rfl,hpp,hfr⟩:=body_open hp;clear hp;obtain⟨e0,e1,e2,e3,e4,e5⟩:=hd_cells (KH3.out _ hfr);obtain⟨g0,g1,g2,g3,gf⟩:=g_cells (GB3.out _ hfr)))
     all_goals clear hnew hmk
     ·have HB:=zH (bd_done (wr:=w2.alloc (.cells #[.int .i64 kk,.int .i64 d',.slice na nt nc,.slice ma mt2 mc] 27)) (gb:=w2.heap.size) hB2.out.1 (((Fr.refl _ _).alloc _).drew) (lb:=wc.heap.size) (by omega) hpp.out ((Fr.refl _ _).alloc _) (by have:=hfr.size;have:=z1s (.cells (zi m) 3);have e9:(wc.alloc (.cells (zi m) 3)).drew.heap.size=(wc.alloc (.cells (zi m) 3)).heap.size:=rfl;omega) (fun b _ hb=>by omega) (zN _ _) HLE.out hkk6 HBX2.out)
      obtain⟨wz,hwz⟩:∃wz,wz=w2.alloc (.cells #[.int .i64 kk,.int .i64 d',.slice na nt nc,.slice ma mt2 mc] 27):=⟨_,rfl⟩
      rw[←hwz] at HB ⊢
      obtain⟨l2,bad3,unt3,g,is,h1,h2,h3,h4,h5,h6,h7⟩:=HB.out
      obtain⟨g0,g1,g2,g3,gf⟩:=g_cells h2
      obtain⟨e0,e1,e2,e3,e4,e5⟩:=hd_cells h1.hd
      have r0:wz.cell? ⟨w.heap.size,0,none⟩=some (.int .i64 0):=by rw[zC h1.res];rfl
      have r1:wz.cell? ⟨w.heap.size,1,none⟩=some (.int .i64 0):=by rw[zC h1.res];rfl
      have r2:wz.cell? ⟨w.heap.size,2,none⟩=some (.slice none 0 0):=by rw[zC h1.res];rfl
      have r3:wz.cell? ⟨w.heap.size,3,none⟩=some (.slice none 0 0):=by rw[zC h1.res];rfl
      have r4:wz.cell? ⟨w.heap.size,4,none⟩=some (.slice none 0 0):=by rw[zC h1.res];rfl
      have r5:wz.cell? ⟨w.heap.size,5,none⟩=some (.slice none 0 0):=by rw[zC h1.res];rfl
      have rf:∀i,wz.frozen? ⟨w.heap.size,i,none⟩=false:=fun i=>zF h1.res i
      have hfin:=zH (h1.post h3 h5 h4 (fun b1 b2 ha=>⟨hk,mt,dm,xy,ps,l1,HS1.out ha,hk1,hk7,by rw[h6,HKK.out],fun h16=>absurd HEM.out (by simp[h16]),fun _ hp hk6=>by
       have hkk:kk=hk:=by rw[HKK.out,if_neg (by omega)]
       obtain⟨s,t1,t2⟩:=h7 b1 b2 hp (by omega)
       rw[hkk,HIX.out] at t1
       rw[hkk] at t2
       exact⟨s,t1,t2⟩⟩))
      clear HB h1 h2 h3 h4 h5 h6 h7 hwz
      go_wp2_with fail
      exact bodyPost_ret (v:=.agg #[.int .i64 kk,.int .i64 d',.slice na nt nc,.slice ma mt2 mc,.slice ba bt bc,.slice la ln lc]) (by simp[results,Tryz.f23,go_sem,r0,r1,r2,r3,r4,r5]) rfl hfin.out
     ·have HB:=zH (bd_done (wr:=(((w2.setCell ⟨wc.heap.size+1,0,none⟩ (.int .i64 kk)).setCell ⟨wc.heap.size+1,1,none⟩ (.int .i64 d')).setCell ⟨wc.heap.size+1,2,none⟩ (.slice na nt nc)).setCell ⟨wc.heap.size+1,3,none⟩ (.slice ma mt2 mc)) (gb:=wc.heap.size+1) hB2.out.1 ((((Fr.refl _ _).alloc _).alloc _).drew) (lb:=wc.heap.size) (by omega) hpp.out ((fr4 w2 (wc.heap.size+1) _ _ _ _).weak (fun b e=>e.symm)) (by omega) (fun b hb _=>by have e9:((wc.alloc (.cells (zi m) 3)).alloc (.cells #[.int .i64 0,.int .i64 0,.slice none 0 0,.slice none 0 0] 27)).drew.heap.size=wc.heap.size+2:=(by show ((wc.alloc _).heap.push _).size=_;rw[Array.size_push,z1s]);omega) (Lib.heap_setCell_same (i:=3) (Lib.heap_setCell_same (i:=2) (Lib.heap_setCell_same (i:=1) (Lib.heap_setCell_same (i:=0) (GB2.out _ hfr) _) _) _) _) HLE.out hkk6 HBX2.out)
      obtain⟨wz,hwz⟩:∃wz,wz=(((w2.setCell ⟨wc.heap.size+1,0,none⟩ (.int .i64 kk)).setCell ⟨wc.heap.size+1,1,none⟩ (.int .i64 d')).setCell ⟨wc.heap.size+1,2,none⟩ (.slice na nt nc)).setCell ⟨wc.heap.size+1,3,none⟩ (.slice ma mt2 mc):=⟨_,rfl⟩
      rw[←hwz] at HB ⊢
      obtain⟨l2,bad3,unt3,g,is,h1,h2,h3,h4,h5,h6,h7⟩:=HB.out
      obtain⟨g0,g1,g2,g3,gf⟩:=g_cells h2
      obtain⟨e0,e1,e2,e3,e4,e5⟩:=hd_cells h1.hd
      have r0:wz.cell? ⟨w.heap.size,0,none⟩=some (.int .i64 0):=by rw[zC h1.res];rfl
      have r1:wz.cell? ⟨w.heap.size,1,none⟩=some (.int .i64 0):=by rw[zC h1.res];rfl
      have r2:wz.cell? ⟨w.heap.size,2,none⟩=some (.slice none 0 0):=by rw[zC h1.res];rfl
      have r3:wz.cell? ⟨w.heap.size,3,none⟩=some (.slice none 0 0):=by rw[zC h1.res];rfl
      have r4:wz.cell? ⟨w.heap.size,4,none⟩=some (.slice none 0 0):=by rw[zC h1.res];rfl
      have r5:wz.cell? ⟨w.heap.size,5,none⟩=some (.slice none 0 0):=by rw[zC h1.res];rfl
      have rf:∀i,wz.frozen? ⟨w.heap.size,i,none⟩=false:=fun i=>zF h1.res i
      have hfin:=zH (h1.post h3 h5 h4 (fun b1 b2 ha=>⟨hk,mt,dm,xy,ps,l1,HS1.out ha,hk1,hk7,by rw[h6,HKK.out],fun h16=>absurd HEM.out (by simp[h16]),fun _ hp hk6=>by
       have hkk:kk=hk:=by rw[HKK.out,if_neg (by omega)]
       obtain⟨s,t1,t2⟩:=h7 b1 b2 hp (by omega)
       rw[hkk,HIX.out] at t1
       rw[hkk] at t2
       exact⟨s,t1,t2⟩⟩))
      clear HB h1 h2 h3 h4 h5 h6 h7 hwz
      go_wp2_with fail
      exact bodyPost_ret (v:=.agg #[.int .i64 kk,.int .i64 d',.slice na nt nc,.slice ma mt2 mc,.slice ba bt bc,.slice la ln lc]) (by simp[results,Tryz.f23,go_sem,r0,r1,r2,r3,r4,r5]) rfl hfin.out
     ·have HB:=zH (bd_done (wr:=(((w2.setCell ⟨wc.heap.size,0,none⟩ (.int .i64 kk)).setCell ⟨wc.heap.size,1,none⟩ (.int .i64 d')).setCell ⟨wc.heap.size,2,none⟩ (.slice na nt nc)).setCell ⟨wc.heap.size,3,none⟩ (.slice ma mt2 mc)) (gb:=wc.heap.size) hB2.out.1 ((((Fr.refl _ _).alloc _).alloc _).drew) (lb:=wc.heap.size+1) (by omega) hpp.out ((fr4 w2 (wc.heap.size) _ _ _ _).weak (fun b e=>e.symm)) (by omega) (fun b hb _=>by have e9:((wc.alloc (.cells #[.int .i64 0,.int .i64 0,.slice none 0 0,.slice none 0 0] 27)).alloc (.cells (zi m) 3)).drew.heap.size=wc.heap.size+2:=(by show ((wc.alloc _).heap.push _).size=_;rw[Array.size_push,z1s]);omega) (Lib.heap_setCell_same (i:=3) (Lib.heap_setCell_same (i:=2) (Lib.heap_setCell_same (i:=1) (Lib.heap_setCell_same (i:=0) (GB3.out _ hfr) _) _) _) _) HLE.out hkk6 HBX2.out)
      obtain⟨wz,hwz⟩:∃wz,wz=(((w2.setCell ⟨wc.heap.size,0,none⟩ (.int .i64 kk)).setCell ⟨wc.heap.size,1,none⟩ (.int .i64 d')).setCell ⟨wc.heap.size,2,none⟩ (.slice na nt nc)).setCell ⟨wc.heap.size,3,none⟩ (.slice ma mt2 mc):=⟨_,rfl⟩
      rw[←hwz] at HB ⊢
      obtain⟨l2,bad3,unt3,g,is,h1,h2,h3,h4,h5,h6,h7⟩:=HB.out
      obtain⟨g0,g1,g2,g3,gf⟩:=g_cells h2
      obtain⟨e0,e1,e2,e3,e4,e5⟩:=hd_cells h1.hd
      have r0:wz.cell? ⟨w.heap.size,0,none⟩=some (.int .i64 0):=by rw[zC h1.res];rfl
      have r1:wz.cell? ⟨w.heap.size,1,none⟩=some (.int .i64 0):=by rw[zC h1.res];rfl
      have r2:wz.cell? ⟨w.heap.size,2,none⟩=some (.slice none 0 0):=by rw[zC h1.res];rfl
      have r3:wz.cell? ⟨w.heap.size,3,none⟩=some (.slice none 0 0):=by rw[zC h1.res];rfl
      have r4:wz.cell? ⟨w.heap.size,4,none⟩=some (.slice none 0 0):=by rw[zC h1.res];rfl
      have r5:wz.cell? ⟨w.heap.size,5,none⟩=some (.slice none 0 0):=by rw[zC h1.res];rfl
      have rf:∀i,wz.frozen? ⟨w.heap.size,i,none⟩=false:=fun i=>zF h1.res i
      have hfin:=zH (h1.post h3 h5 h4 (fun b1 b2 ha=>⟨hk,mt,dm,xy,ps,l1,HS1.out ha,hk1,hk7,by rw[h6,HKK.out],fun h16=>absurd HEM.out (by simp[h16]),fun _ hp hk6=>by
       have hkk:kk=hk:=by rw[HKK.out,if_neg (by omega)]
       obtain⟨s,t1,t2⟩:=h7 b1 b2 hp (by omega)
       rw[hkk,HIX.out] at t1
       rw[hkk] at t2
       exact⟨s,t1,t2⟩⟩))
      clear HB h1 h2 h3 h4 h5 h6 h7 hwz
      go_wp2_with fail
      exact bodyPost_ret (v:=.agg #[.int .i64 kk,.int .i64 d',.slice na nt nc,.slice ma mt2 mc,.slice ba bt bc,.slice la ln lc]) (by simp[results,Tryz.f23,go_sem,r0,r1,r2,r3,r4,r5]) rfl hfin.out
theorem whole23(B r:Nat)(any:Bool)(hrB:B≤r):∀(N:Nat) (l:List UInt8) (bad unt:Bool) (w:World),l.length≤N→N≤1000000→B≤w.heap.size→RIn (· < B) r w l any bad unt→Calls Tryz.prog 23 #[.pointer (some ⟨r,0,none⟩)] w (WholePost B r l any bad unt w)
 | 0,l,bad,unt,w,hl,hN,hB,hR=>whole_step B r l any bad unt w hB hrB (by omega) hR (fun l2 _ _ _ h=>by omega)
 | N+1,l,bad,unt,w,hl,hN,hB,hR=>whole_step B r l any bad unt w hB hrB (by omega) hR (fun l2 bad2 unt2 w2 h hR2 hB2=>whole23 B r any hrB N l2 bad2 unt2 w2 (by omega) (by omega) hB2 hR2)
end Go.Proofs.YtnjjgbcmjnfijaaGreatDoor
