/- The reference's reader of tiny bytes: AskedReadTWKB, ReadTWKB. No condition. -/
import Derived.Test.YtnjjgbcmjnfijaaGreatDoorGk
import Derived.Test.YtnjjgbcmjnfijaaGreatDoorRr
import Derived.Test.YtnjjgbcmjnfijaaGreatDoorLa
import Derived.Test.YtnjjgbcmjnfijaaGreatDoorWs
import Derived.Test.YtnjjgbcmjnfijaaGreatDoorWr
namespace Go.Proofs.YtnjjgbcmjnfijaaGreatDoor
set_option maxRecDepth 100000
set_option maxHeartbeats 2000000
open Go.RowKit
theorem new19:∀(d:Nat) (P:Nat→Prop) (w:World) (k dm:Int) (n m:Value) (g:G),GAt d P w [.int .i64 k,.int .i64 dm,n,m] g→Calls Tryz.prog 19 #[gv k dm n m] w (NewPost d g w)
 | 0,_,_,_,_,_,_,_,h=>h.elim
 | d+1,P,w,k,dm,n,m,g,h=>by
  by_cases h1:kdN k=1
  ·have:k=1:=by unfold kdN at h1;split at h1<;>omega
   subst this
   exact new19_leaf1 d P w dm n m g h
  ·by_cases h2:kdN k=2
   ·have:k=2:=by unfold kdN at h2;split at h2<;>omega
    subst this
    exact new19_leaf2 d P w dm n m g h
   ·exact new19_whole d P w k dm n m g h ⟨h1,h2⟩ (new19 d)
theorem tx_bytes{tb tf tc:Nat}{T:List UInt8}{w:World}(h:TxAt tb tf T w)(hl:T.length≤tc)(P:Nat→Prop)(hP:P tb):BytesAt P w (.slice (some ⟨tb,tf,none⟩) T.length tc) T:=by
 refine⟨by simp,_,tc,rfl,hl,(by intro e;cases e),fun _=>⟨tb,tf,rfl,hP,fun j u hu=>?_⟩⟩
 rw[List.getElem?_map] at hu
 have hj:j < T.length:=by
  rcases Nat.lt_or_ge j T.length with h1|h1
  ·exact h1
  ·rw[List.getElem?_eq_none h1] at hu;cases hu
 rw[List.getElem?_eq_getElem hj] at hu
 rw[h j hj,←Option.some.inj hu]
theorem rin_new{tb tf tc:Nat}{T:List UInt8}{w:World}(h:TxAt tb tf T w)(hl:T.length≤tc)(htw:tb < w.heap.size)(any:Bool):RIn (· < w.heap.size) w.heap.size (w.alloc (.cells #[.slice (some ⟨tb,tf,none⟩) T.length tc,.bool any,.bool false,.bool false] 52)) T any false false :=
 ⟨_,zN w _,tx_bytes (h.fr ((Fr.refl (fun _=>False) w).alloc _) (fun h=>h)) hl _ htw,Nat.lt_irrefl _⟩
theorem rin_flags{P:Nat→Prop}{r:Nat}{w:World}{l:List UInt8}{any bad unt:Bool}(h:RIn P r w l any bad unt):w.cell? ⟨r,2,none⟩=some (.bool bad)∧w.cell? ⟨r,3,none⟩=some (.bool unt):=by
 obtain⟨v,hb,_⟩:=h
 exact⟨by rw[zC hb];rfl,by rw[zC hb];rfl⟩
theorem ask5{tb tf tc:Nat}{T:List UInt8}{w:World}(h:TxAt tb tf T w)(hl:T.length≤tc)(hT:T.length≤1000000)(htw:tb < w.heap.size):
  Calls Tryz.prog 5 #[.slice (some ⟨tb,tf,none⟩) T.length tc] w fun e w'=>∃z,e=.returned (.bool z)∧ZF w w':=by
 obtain⟨N,hN⟩:∃N,N=T.length:=⟨_,rfl⟩
 obtain⟨w0,hw0⟩:∃w0,w0=w.alloc (.cells #[.slice (some ⟨tb,tf,none⟩) N tc,.bool true,.bool false,.bool false] 52):=⟨_,rfl⟩
 have f0:ZF w w0:=by rw[hw0];exact (Fr.refl _ w).alloc _
 have hR:=rin_new h hl htw true
 rw[←hN,←hw0] at hR
 have C23:Hid (Calls Tryz.prog 23 #[.pointer (some ⟨w.heap.size,0,none⟩)] w0 (WholePost w.heap.size w.heap.size T true false false w0)):=whole23 _ _ true (Nat.le_refl _) T.length T false false w0 (Nat.le_refl _) hT f0.size hR
 have F0:=zH f0
 have HW:=zH hw0
 rw[←hN]
 clear h hl hT htw hN hw0 f0 hR
 go_enter Tryz.func5,Tryz.ntmps5
 go_upto_region 2 with fail
 rw[←HW.out]
 go_upto_region 3 with (go_at_call 23;refine C23.out.mono ?_;rintro e w1 ⟨kd,dm,na,nt,nc,ma,mt,mc,ba,bt,bc,la,ln,lc,rfl,hp⟩)
 have HP:Hid (∃unt1,w1.cell? ⟨w.heap.size,3,none⟩=some (.bool unt1)∧ZF w w1):=by
  obtain⟨g,l1,bad1,unt1,gs,is,hst,_⟩:=hp.out
  exact⟨unt1,(rin_flags hst.inn).2,F0.out.transNew hst.fr (fun b e=>.inl (by omega))⟩
 obtain⟨unt1,c3,f1⟩:=HP.out
 have F1:=zH f1
 clear hp HP f1
 go_wp2_with fail
 go_ret
 exact⟨_,rfl,F1.out⟩
def RefOk (l:List UInt8) (g:G):Prop :=
 ∃(is:List Int) (l1:List UInt8) (kind meta_ dim:Nat) (xy:Int) (ps:List Int) (l0:List UInt8),HeadP l kind meta_ dim xy ps l0∧1≤kind∧kind≤7∧g.kind=(if kind=7 then 0 else kind:Nat)∧(meta_ / 16 % 2=1→g=.mk (if kind=7 then 0 else kind:Nat) 0 [] []) ∧
  (meta_ / 16 % 2≠1→(∀p∈ps,0≤p)→kind≤6→∃s,BodyP 4096 kind (meta_ / 4 % 2 == 1) ps (ps.map fun _=>0) l0 s is l1∧g=toG kind dim s)
def R6Post (l:List UInt8) (w:World) (e:Ending) (w':World):Prop :=
 ∃(kd dm:Int) (na:Option Addr) (n nc:Nat) (ka:Option Addr) (m kc:Nat) (a1:Option Addr) (n1 c1:Nat) (a2:Option Addr) (n2 c2:Nat) (ok:Bool),e=.returned (.tuple #[.agg #[.int .i64 kd,.int .i64 dm,.slice na n nc,.slice ka m kc,.slice a1 n1 c1,.slice a2 n2 c2],.bool ok])∧Hid (ZF w w' ∧
  (ok=true→∃g,GAt (l.length+4) (fun _=>True) w' [.int .i64 kd,.int .i64 dm,.slice na n nc,.slice ka m kc] (nw (l.length+4) g)∧RefOk l g))
theorem set6{w:World}{b:Nat}{v0 v1 v2 v3 v4 v5 u0 u1 u2 u3 u4 u5:Value}(h:w.heap[b]?=some (.cells #[v0,v1,v2,v3,v4,v5] 30 (0,0))):
  ((((((w.setCell ⟨b,0,none⟩ u0).setCell ⟨b,1,none⟩ u1).setCell ⟨b,2,none⟩ u2).setCell ⟨b,3,none⟩ u3).setCell ⟨b,4,none⟩ u4).setCell ⟨b,5,none⟩ u5).heap[b]?=some (.cells #[u0,u1,u2,u3,u4,u5] 30 (0,0))∧Fr (Eq b) w ((((((w.setCell ⟨b,0,none⟩ u0).setCell ⟨b,1,none⟩ u1).setCell ⟨b,2,none⟩ u2).setCell ⟨b,3,none⟩ u3).setCell ⟨b,4,none⟩ u4).setCell ⟨b,5,none⟩ u5):=by
 refine⟨?_,((((((Fr.refl _ w).setR _).setR _).setR _).setR _).setR _).setR _⟩
 have h0:=Lib.heap_setCell_same (i:=0) h u0
 have h1:=Lib.heap_setCell_same (i:=1) h0 u1
 have h2:=Lib.heap_setCell_same (i:=2) h1 u2
 have h3:=Lib.heap_setCell_same (i:=3) h2 u3
 have h4:=Lib.heap_setCell_same (i:=4) h3 u4
 exact Lib.heap_setCell_same (i:=5) h4 u5
theorem set4{w:World}{b:Nat}{v0 v1 v2 v3 v4 v5 u0 u1 u2 u3:Value}(h:w.heap[b]?=some (.cells #[v0,v1,v2,v3,v4,v5] 30 (0,0))):
  ((((w.setCell ⟨b,0,none⟩ u0).setCell ⟨b,1,none⟩ u1).setCell ⟨b,2,none⟩ u2).setCell ⟨b,3,none⟩ u3).heap[b]?=some (.cells #[u0,u1,u2,u3,v4,v5] 30 (0,0))∧Fr (Eq b) w ((((w.setCell ⟨b,0,none⟩ u0).setCell ⟨b,1,none⟩ u1).setCell ⟨b,2,none⟩ u2).setCell ⟨b,3,none⟩ u3):=by
 refine⟨?_,((((Fr.refl _ w).setR _).setR _).setR _).setR _⟩
 have h0:=Lib.heap_setCell_same (i:=0) h u0
 have h1:=Lib.heap_setCell_same (i:=1) h0 u1
 have h2:=Lib.heap_setCell_same (i:=2) h1 u2
 exact Lib.heap_setCell_same (i:=3) h2 u3
theorem read6{tb tf tc:Nat}{T:List UInt8}{w:World}(h:TxAt tb tf T w)(hl:T.length≤tc)(hT:T.length≤1000000)(htw:tb < w.heap.size):
  Calls Tryz.prog 6 #[.slice (some ⟨tb,tf,none⟩) T.length tc] w (R6Post T w):=by
 obtain⟨N,hN⟩:∃N,N=T.length:=⟨_,rfl⟩
 obtain⟨wa,hwa⟩:∃wa,wa=w.alloc (.cells #[.int .i64 0,.int .i64 0,.slice none 0 0,.slice none 0 0,.slice none 0 0,.slice none 0 0] 30):=⟨_,rfl⟩
 have fa:ZF w wa:=by rw[hwa];exact (Fr.refl _ w).alloc _
 have ba:=zN w (.cells #[.int .i64 0,.int .i64 0,.slice none 0 0,.slice none 0 0,.slice none 0 0,.slice none 0 0] 30)
 rw[←hwa] at ba
 have sa:=(zG ba).1
 obtain⟨w0,hw0⟩:∃w0,w0=wa.alloc (.cells #[.slice (some ⟨tb,tf,none⟩) N tc,.bool false,.bool false,.bool false] 52):=⟨_,rfl⟩
 have f0:ZF wa w0:=by rw[hw0];exact (Fr.refl _ wa).alloc _
 have hR:=rin_new (h.fr fa (fun h=>h)) hl (by omega) false
 rw[←hN,←hw0] at hR
 have C23:Hid (Calls Tryz.prog 23 #[.pointer (some ⟨wa.heap.size,0,none⟩)] w0 (WholePost wa.heap.size wa.heap.size T false false false w0)):=whole23 _ _ false (Nat.le_refl _) T.length T false false w0 (Nat.le_refl _) hT f0.size hR
 have FA:=zH fa
 have F0:=zH f0
 have B0:=zH ((f0.block _ sa (fun h=>h)).trans ba)
 have HW:=zH hw0
 have HA:=zH hwa
 have C19:=zH (new19 (T.length+4))
 unfold gv at C19
 rw[←hN]
 clear h hl hT htw hN hw0 f0 hR fa ba hwa
 go_enter Tryz.func6,Tryz.ntmps6
 go_upto_region 1 with fail
 rw[←HA.out]
 go_upto_region 2 with fail
 rw[←HW.out]
 obtain⟨rb,hrb⟩:∃rb,rb=wa.heap.size:=⟨_,rfl⟩
 rw[←hrb] at C23 ⊢
 have hlt:w.heap.size < rb:=by omega
 have hrs:Hid (rb≤w0.heap.size):=by have:=F0.out.size;show _≤_;omega
 have HRB:=zH hrb
 clear hrb sa
 go_upto_region 3 with (go_at_call 23;refine C23.out.mono ?_;rintro e w1 ⟨kd,dm,na,nt,nc,ma,mt,mc,ba,bt,bc,la,ln,lc,rfl,hp⟩;have B1:Hid (w1.heap[w.heap.size]?=some (.cells #[.int .i64 0,.int .i64 0,.slice none 0 0,.slice none 0 0,.slice none 0 0,.slice none 0 0] 30 (0,0))):=(by obtain⟨g,l1,bad1,unt1,gs,is,hst,_⟩:=hp.out;exact (hst.fr.block _ (by have:=hrs.out;omega) (by omega)).trans B0.out);obtain⟨z0,z1,z2,z3,z4,z5,zf⟩:=t_cells B1.out)
 clear z0 z1 z2 z3 z4 z5 zf
 have S2:=zH (set6 (u0:=.int .i64 kd) (u1:=.int .i64 dm) (u2:=.slice na nt nc) (u3:=.slice ma mt mc) (u4:=.slice ba bt bc) (u5:=.slice la ln lc) B1.out)
 generalize hw2:World.setCell _ _ _=w2 at S2 ⊢
 have HP:Hid (∃(bad1 unt1:Bool),w2.cell? ⟨rb,2,none⟩=some (.bool bad1)∧w2.cell? ⟨rb,3,none⟩=some (.bool unt1)∧ZF w w2∧(bad1=false→unt1=false→∃g,GAt (T.length+4) (fun b=>rb≤b) w2 [.int .i64 kd,.int .i64 dm,.slice na nt nc,.slice ma mt mc] g∧RefOk T g)):=by
  obtain⟨g,l1,bad1,unt1,gs,is,hst,hg,_,_,hsu⟩:=hp.out
  obtain⟨x2,x3⟩:=rin_flags hst.inn
  refine⟨bad1,unt1,S2.out.2.cell x2 (by show ¬w.heap.size=rb;omega),S2.out.2.cell x3 (by show ¬w.heap.size=rb;omega),((FA.out.trans F0.out).transNew hst.fr (fun b e=>.inl (by omega))).transNew S2.out.2 (fun b e=>.inl (by omega)),fun e1 e2=>⟨g,?_,is,l1,hsu e1 e2 trivial⟩⟩
  have hr:=hrs.out
  exact (GAt.kp _).kept (fun b hb hl=>S2.out.2.block b hl (by omega)) ((GAt.kp _).mono (fun b hb _=>Nat.le_trans hr hb) hg)
 obtain⟨bad1,unt1,c2,c3,fw,hsu⟩:=HP.out
 have F2:=zH fw
 have HS:=zH hsu
 have B2:=zH S2.out.1
 obtain⟨z0,z1,z2,z3,z4,z5,zf⟩:=t_cells B2.out
 clear hp HP hw2 S2 fw hsu B1 B0
 have bad:∀w':World,ZF w w'→R6Post T w (.returned (.tuple #[.agg #[.int .i64 0,.int .i64 0,.slice none 0 0,.slice none 0 0,.slice none 0 0,.slice none 0 0],.bool false])) w':=fun w' f=>⟨0,0,none,0,0,none,0,0,none,0,0,none,0,0,false,rfl,f,fun e=>by cases e⟩
 have BAD:=zH bad
 clear bad
 cases bad1 with
 | true =>
  go_wp2_with fail
  refine bodyPost_ret (v:=.tuple #[.agg #[.int .i64 0,.int .i64 0,.slice none 0 0,.slice none 0 0,.slice none 0 0,.slice none 0 0],.bool false]) (by simp[results,Tryz.f6,go_sem,z0,z1,z2,z3,z4,z5]) rfl (BAD.out _ ?_)
  exact ((((((F2.out.setNew (Nat.le_refl _) _).setNew (Nat.le_refl _) _).setNew (Nat.le_refl _) _).setNew (Nat.le_refl _) _).setNew (Nat.le_refl _) _).setNew (Nat.le_refl _) _)
 | false =>
  cases unt1 with
  | true =>
   go_wp2_with fail
   refine bodyPost_ret (v:=.tuple #[.agg #[.int .i64 0,.int .i64 0,.slice none 0 0,.slice none 0 0,.slice none 0 0,.slice none 0 0],.bool false]) (by simp[results,Tryz.f6,go_sem,z0,z1,z2,z3,z4,z5]) rfl (BAD.out _ ?_)
   exact ((((((F2.out.setNew (Nat.le_refl _) _).setNew (Nat.le_refl _) _).setNew (Nat.le_refl _) _).setNew (Nat.le_refl _) _).setNew (Nat.le_refl _) _).setNew (Nat.le_refl _) _)
  | false =>
   obtain⟨g,hg,hok⟩:=HS.out rfl rfl
   have HOK:=zH hok
   have C:=zH (C19.out _ _ _ _ _ _ _ hg)
   have HLT:Hid (w.heap.size < w2.heap.size):=(zG B2.out).1
   clear hok hg HS BAD C19
   go_upto_region 5 with fail
   go_upto_region 6 with (go_at_call 19;(with_reducible refine C.out.mono ?_);rintro e w3 ⟨k3,d3,na3,n3,nc3,ka3,m3,kc3,rfl,hp⟩;have HP:=zH hp.out;obtain⟨y0,y1,y2,y3,y4,y5,yf⟩:=t_cells ((HP.out.1.block _ HLT.out (fun h=>h)).trans B2.out);clear hp)
   have S4:=zH (set4 (u0:=.int .i64 k3) (u1:=.int .i64 d3) (u2:=.slice na3 n3 nc3) (u3:=.slice ka3 m3 kc3) ((HP.out.1.block _ HLT.out (fun h=>h)).trans B2.out))
   clear z0 z1 z2 z3 z4 z5 zf y0 y1 y2 y3 y4 y5 yf
   generalize hw4:World.setCell _ _ _=w4 at S4 ⊢
   obtain⟨z0,z1,z2,z3,z4,z5,zf⟩:=t_cells S4.out.1
   have F4:Hid (ZF w w4):=(F2.out.trans HP.out.1).transNew S4.out.2 (fun b e=>.inl (by omega))
   have G4:Hid (GAt (T.length+4) (fun b=>w2.heap.size≤b) w4 [.int .i64 k3,.int .i64 d3,.slice na3 n3 nc3,.slice ka3 m3 kc3] (nw (T.length+4) g)):=(GAt.kp _).kept (fun b hb hl=>S4.out.2.block b hl (by have:=HLT.out;omega)) HP.out.2
   clear hw4 S4
   go_wp2_with fail
   refine bodyPost_ret (v:=.tuple #[.agg #[.int .i64 k3,.int .i64 d3,.slice na3 n3 nc3,.slice ka3 m3 kc3,.slice ba bt bc,.slice la ln lc],.bool true]) (by simp[results,Tryz.f6,go_sem,z0,z1,z2,z3,z4,z5]) rfl ?_
   refine⟨k3,d3,na3,n3,nc3,ka3,m3,kc3,ba,bt,bc,la,ln,lc,true,rfl,?_,fun _=>⟨g,?_,HOK.out⟩⟩
   ·exact (((((F4.out.setNew (Nat.le_refl _) _).setNew (Nat.le_refl _) _).setNew (Nat.le_refl _) _).setNew (Nat.le_refl _) _).setNew (Nat.le_refl _) _).setNew (Nat.le_refl _) _
   ·have f5:Fr (Eq w.heap.size) w4 ((((((w4.setCell ⟨w.heap.size,0,none⟩ (.int .i64 k3)).setCell ⟨w.heap.size,1,none⟩ (.int .i64 d3)).setCell ⟨w.heap.size,2,none⟩ (.slice na3 n3 nc3)).setCell ⟨w.heap.size,3,none⟩ (.slice ka3 m3 kc3)).setCell ⟨w.heap.size,4,none⟩ (.slice ba bt bc)).setCell ⟨w.heap.size,5,none⟩ (.slice la ln lc)):=((((((Fr.refl _ w4).setR _).setR _).setR _).setR _).setR _).setR _
    exact (GAt.kp _).mono (fun _ _ _=>trivial) ((GAt.kp _).kept (fun b hb hl=>f5.block b hl (by have:=HLT.out;omega)) G4.out)
open Go.RowKit
theorem nw_kind:∀(n:Nat) (g:G),(nw (n+1) g).kind=kdN g.kind
 | n,.mk k d ns ks=>by
  unfold nw
  show _=kdN k
  split
  ·rfl
  ·split
   ·rfl
   ·unfold fo;rfl
theorem nw_hollow(n:Nat)(k:Int):isW (n+1) (nw (n+1) (.mk k 0 [] []))=false:=by
 unfold nw
 simp only[List.map_nil,List.filter_nil,List.length_nil,List.take_nil,if_true]
 split
 ·unfold isW
  unfold isE
  simp
 ·unfold isW
  unfold isE
  simp
theorem prs_len(dim p z m:Nat):(prs dim p z m).length=wd dim:=by
 unfold prs wd
 have h1:dim % 2=0∨dim % 2=1:=by omega
 have h2:dim / 2 % 2=0∨dim / 2 % 2=1:=by omega
 rcases h1 with h1|h1<;>rcases h2 with h2|h2<;>rw[h1,h2]<;>simp
theorem prs_bd{dim p z m:Nat}(hp:p≤7)(hz:z≤7)(hm:m≤7):∀x∈prs dim p z m,0≤x∧x≤7:=fun x hx=>by
 unfold prs at hx
 simp only[List.mem_append,List.mem_cons] at hx
 have h1:∀(c:Prop) [Decidable c] (v:Nat),v≤7→x∈(if c then [(v:Int)] else [])→0≤x∧x≤7:=fun c _ v hv h=>by
  split at h
  ·simp at h;omega
  ·simp at h
 rcases hx with (h|h)|h
 ·simp at h;omega
 ·exact h1 _ z hz h
 ·exact h1 _ m hm h
theorem HeadP.len{l l':List UInt8}{kind meta_ dim:Nat}{xy:Int}{ps:List Int}(h:HeadP l kind meta_ dim xy ps l'):l'.length≤l.length:=by
 obtain⟨b0,b1,r1,r2,r3,rfl,_,_,_,hE,hS,hB⟩:=h
 have h1:r2.length≤r1.length:=by
  unfold ExtP at hE
  split at hE
  ·obtain⟨b2,rfl,_⟩:=hE;simp
  ·rw[hE.1];exact Nat.le_refl _
 have h2:r3.length≤r2.length:=by
  unfold SizeP at hS
  split at hS
  ·obtain⟨z,hu,_⟩:=hS
   have:=uv_len hu
   omega
  ·rw[hS];exact Nat.le_refl _
 have h3:l'.length≤r3.length:=by
  unfold BoxP at hB
  split at hB
  ·obtain⟨ds,hc,_⟩:=hB
   have:=hc.len
   omega
  ·rw[hB];exact Nat.le_refl _
 simp only[List.length_cons]
 omega
structure Ag (T:List UInt8) (b0 b1 b2:UInt8) (k dim c p z m:Nat) (s:Sh) (is:List Int) (l0 l1:List UInt8):Prop where
 hk:1≤k∧k≤6
 hd:dim≤3
 hp:p≤7
 hz:z≤7
 hm:m≤7
 xy:unz ((b0.toNat / 16:Nat):Int)=(p:Int)
 e1:(b1.toNat / 8 % 2 == 1)=true→z=b2.toNat / 4 % 8∧m=b2.toNat / 32
 e0:(b1.toNat / 8 % 2 == 1)=false→z=p∧m=p
 head:HeadP T k c dim (p:Int) (prs dim p z m) l0
 em:(c / 16 % 2 == 1)=false
 body:BodyP 4096 k (c / 4 % 2 == 1) (prs dim p z m) ((prs dim p z m).map fun _=>0) l0 s is l1
 ne:NE s
 ws:WS 5000 k (prs dim p z m) s
 sm:s.all (fun x=>x.1∈prs dim p z m∧x.2.natAbs < 35184372088832)
theorem ag_facts{T:List UInt8}{b0 b1 b2:UInt8}{r:List UInt8}(hT:T=b0 :: b1 :: b2 :: r){g:G}(h:RefOk T g)(hxy:0≤unz ((b0.toNat / 16:Nat):Int))(hk0:(nw (T.length+4) g).kind≠0)
  (hW:isW (T.length+4) (nw (T.length+4) g)=true) (hS:isS (T.length+4) (nw (T.length+4) g)=true):∃(k dim c p z m:Nat) (s:Sh) (is:List Int) (l0 l1:List UInt8),Ag T b0 b1 b2 k dim c p z m s is l0 l1:=by
 obtain⟨is,l1,kind,meta_,dim,xy,ps,l0,hH,h1,h7,hgk,hE,hB⟩:=h
 have hH0:=hH
 obtain⟨c0,c1,r1,r2,r3,e0,hkind,hxy',hmeta,hext,hsz,hbx⟩:=hH
 rw[hT] at e0
 injection e0 with e0 e1
 injection e1 with e1 e2
 subst e0 e1
 rw[←hxy'] at hxy
 rw[nw_kind] at hk0
 have h6:kind≤6:=by
  by_cases h:kind=7
  ·rw[hgk,if_pos h] at hk0
   exact absurd rfl hk0
  ·omega
 have hm16:meta_ / 16 % 2≠1:=fun h=>by
  have:=hE h
  rw[this,show T.length+4=(T.length+3)+1 from rfl,nw_hollow] at hW
  cases hW
 have hb0:=b0.toNat_lt
 have hb2:=b2.toNat_lt
 obtain⟨p,hp⟩:∃p:Nat,xy=(p:Int):=⟨xy.toNat,by omega⟩
 have hp7:p≤7:=by
  rw[hp] at hxy'
  unfold unz at hxy'
  split at hxy'<;>omega
 have key:∃z m:Nat,z≤7∧m≤7∧dim≤3∧ps=prs dim p z m∧((b1.toNat / 8 % 2 == 1)=true→z=b2.toNat / 4 % 8∧m=b2.toNat / 32)∧((b1.toNat / 8 % 2 == 1)=false→z=p∧m=p):=by
  unfold ExtP at hext
  cases hx:(b1.toNat / 8 % 2 == 1) with
  | true =>
   rw[hx,if_pos rfl] at hext
   obtain⟨b2',e3,e4,e5⟩:=hext
   rw[←e2] at e3
   injection e3 with e3 _
   subst e3
   refine⟨b2.toNat / 4 % 8,b2.toNat / 32,by omega,by omega,by omega,?_,fun _=>⟨rfl,rfl⟩,fun h=>by cases h⟩
   rw[e5,e4,hp]
   unfold precsOf prs
   rw[show b2.toNat % 4 % 2=b2.toNat % 2 by omega,show b2.toNat % 4 / 2 % 2=b2.toNat / 2 % 2 by omega]
  | false =>
   rw[hx,if_neg (by decide)] at hext
   obtain⟨_,e4,e5⟩:=hext
   refine⟨p,p,hp7,hp7,by omega,?_,fun h=>(by cases h),fun _=>⟨rfl,rfl⟩⟩
   rw[e5,e4,hp]
   rfl
 obtain⟨z,m,hz,hm,hd,hps,k1,k0⟩:=key
 have hbd:∀q∈ps,0≤q∧q≤7:=by rw[hps];exact prs_bd hp7 hz hm
 obtain⟨s,hb,hg⟩:=hB hm16 (fun q hq=>(hbd q hq).1) h6
 rw[hg] at hW hS
 have hpl:ps.length=wd dim:=by rw[hps];exact prs_len _ _ _ _
 obtain⟨a1,a2,a3,a4⟩:=again_shape (d:=T.length+1) hb hd hpl hbd hW hS
 rw[hp,hps] at hH0
 rw[hps] at hb a3 a4
 exact⟨kind,dim,meta_,p,z,m,s,is,l0,l1,⟨h1,h6⟩,hd,hp7,hz,hm,by rw[←hp];exact hxy'.symm,k1,k0,hH0,by simpa using hm16,hb,a2,a3,a4⟩
end Go.Proofs.YtnjjgbcmjnfijaaGreatDoor
