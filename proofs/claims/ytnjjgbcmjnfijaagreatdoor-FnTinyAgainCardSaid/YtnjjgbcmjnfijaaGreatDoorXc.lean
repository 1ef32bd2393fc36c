/- The law FnTinyAgain: the walk. No condition. -/
import Derived.Test.YtnjjgbcmjnfijaaGreatDoorXb
import Derived.Test.YtnjjgbcmjnfijaaGreatDoorWv
import Derived.Deep.CutBlock
namespace Go.Proofs.YtnjjgbcmjnfijaaGreatDoor
set_option maxRecDepth 100000
set_option maxHeartbeats 16000000
open Go.RowKit
theorem and8u:∀c:Fin 256,bits .and .u8 (c.val:Int) 8=if (c.val / 8 % 2 == 1)=true then 8 else 0:=by decide +kernel
def LwPost (w:World) (e:Ending) (w':World):Prop:=e=.returned (.bool true)∧ZF w w'
theorem law3_out(a:Option Addr)(n c:Nat)(w:World)(h:n < 3∨2000 < n):Calls Tryz.prog 3 #[.slice a n c] w (LwPost w):=by
 by_cases h1:2147483647 < n
 ·have e1:decide ((2147483647:Int) < (n:Int))=true:=by simp;omega
  go_enter Tryz.func3,Tryz.ntmps3
  go_wp2_with fail
  go_ret
  exact⟨rfl,Fr.refl _ _⟩
 ·have e1:decide ((2147483647:Int) < (n:Int))=false:=by simp;omega
  rcases h with h|h
  ·have e2:decide ((n:Int) < 3)=true:=by simp;omega
   go_enter Tryz.func3,Tryz.ntmps3
   go_wp2_with fail
   go_ret
   exact⟨rfl,Fr.refl _ _⟩
  ·have e2:decide ((n:Int) < 3)=false:=by simp;omega
   have e3:decide ((2000:Int) < (n:Int))=true:=by simp;omega
   go_enter Tryz.func3,Tryz.ntmps3
   go_wp2_with fail
   go_ret
   exact⟨rfl,Fr.refl _ _⟩
theorem law_box{w:World}{b:Nat}{xy z m:Int}(h:w.heap[b]?=some (.cells #[.int .i64 xy,.bool false,.bool false,.int .i64 0,.int .i64 0,.bool false,.bool false,.bool true,.slice none 0 0] 37 (0,0))):
  ((((w.setCell ⟨b,1,none⟩ (.bool true)).setCell ⟨b,3,none⟩ (.int .i64 z)).setCell ⟨b,2,none⟩ (.bool true)).setCell ⟨b,4,none⟩ (.int .i64 m)).drew.heap[b]?=some (.cells #[.int .i64 xy,.bool true,.bool true,.int .i64 z,.int .i64 m,.bool false,.bool false,.bool true,.slice none 0 0] 37 (0,0)):=by
 have h0:=Lib.heap_setCell_same (i:=1) h (.bool true)
 have h1:=Lib.heap_setCell_same (i:=3) h0 (.int .i64 z)
 have h2:=Lib.heap_setCell_same (i:=2) h1 (.bool true)
 exact Lib.heap_setCell_same (i:=4) h2 (.int .i64 m)
theorem Ag.sizes{T:List UInt8}{b0 b1 b2:UInt8}{k dim c p z m:Nat}{s:Sh}{is:List Int}{l0 l1:List UInt8}(h:Ag T b0 b1 b2 k dim c p z m s is l0 l1)(hT:T.length≤2000):(bodyE k (prs dim p z m) ((prs dim p z m).map fun _=>0) s).length≤50000∧(docE k dim p z m (prs dim p z m) s).length≤60000:=by
 have hpl:0 < (prs dim p z m).length:=by rw[prs_len];unfold wd;omega
 have h1:=h.head.len
 have h2:=h.body.size hpl
 have h3:=bodyE_len (Q:=(prs dim p z m).map fun _=>0) h.ws hpl ⟨by simp,fun q hq=>by simp at hq;omega⟩
 have h4:(extE dim z m).length≤1:=by unfold extE;split<;>simp
 refine⟨by omega,?_⟩
 unfold docE
 simp only[List.length_cons,List.length_append]
 omega
theorem Ag.again{T:List UInt8}{b0 b1 b2:UInt8}{k dim c p z m:Nat}{s:Sh}{is:List Int}{l0 l1:List UInt8}(h:Ag T b0 b1 b2 k dim c p z m s is l0 l1)(hT:T.length≤2000){w:World}(ht:TenTab w){g cc:Nat}(htx:TxAt g 0 (docE k dim p z m (prs dim p z m) s) w)(hcc:(docE k dim p z m (prs dim p z m) s).length≤cc)(hg:g < w.heap.size):
  Calls Tryz.prog 11 #[.slice (some ⟨g,0,none⟩) (docE k dim p z m (prs dim p z m) s).length cc,.bool false] w (RdPost k dim s w):=by
 obtain⟨l2,hh,hb⟩:=doc_enc (kind:=k) (dim:=dim) (xy:=p) (pz:=z) (pm:=m) (ps:=prs dim p z m) (by have:=h.hk;omega) (by have:=h.hd;omega) h.hp h.hz h.hm rfl h.ws
 have hc:((if dim=0 then 0 else 8:Nat) / 4 % 2 == 1)=false:=by split<;>rfl
 have hc2:((if dim=0 then 0 else 8:Nat) / 16 % 2 == 1)=false:=by split<;>rfl
 have:=(h.sizes hT).2
 exact read11 htx hg ⟨hcc,by omega⟩ ht h.hk h.hd hh (by omega) hc2 (Nat.le_refl _) (prs_rf _) (by rw[hc];exact hb) h.ne
theorem law3_in{tb tf tc:Nat}{T:List UInt8}{w:World}(h:TxAt tb tf T w)(hl:T.length≤tc)(h3:3≤T.length)(h2:T.length≤2000)(ht:TenTab w):Calls Tryz.prog 3 #[.slice (some ⟨tb,tf,none⟩) T.length tc] w (LwPost w):=by
 have htw:tb < w.heap.size:=World.block_lt_of_cell? w _ (h 0 (by omega))
 obtain⟨b0,b1,b2,r,hT⟩:∃b0 b1 b2 r,T=b0 :: b1 :: b2 :: r:=by
  match T,h3 with
  | b0 :: b1 :: b2 :: r,_=>exact⟨b0,b1,b2,r,rfl⟩
 obtain⟨N,hN⟩:∃N,N=T.length:=⟨_,rfl⟩
 obtain⟨n0,hn0⟩:∃n0,n0=b0.toNat:=⟨_,rfl⟩
 obtain⟨n1,hn1⟩:∃n1,n1=b1.toNat:=⟨_,rfl⟩
 obtain⟨n2,hn2⟩:∃n2,n2=b2.toNat:=⟨_,rfl⟩
 have c0:w.cell? ⟨tb,tf,none⟩=some (.int .u8 n0):=by have:=h 0 (by omega);subst hT;rw[hn0];exact this
 have c1:w.cell? ⟨tb,tf+1,none⟩=some (.int .u8 n1):=by have:=h 1 (by omega);subst hT;rw[hn1];exact this
 have c2:w.cell? ⟨tb,tf+2,none⟩=some (.int .u8 n2):=by have:=h 2 (by omega);subst hT;rw[hn2];exact this
 have hb0:n0 < 256:=by rw[hn0];exact b0.toNat_lt
 have hb1:n1 < 256:=by rw[hn1];exact b1.toNat_lt
 have hb2:n2 < 256:=by rw[hn2];exact b2.toNat_lt
 have C5:Hid (Calls Tryz.prog 5 #[.slice (some ⟨tb,tf,none⟩) N tc] w fun e w'=>∃z,e=.returned (.bool z)∧ZF w w'):=by rw[hN];exact ask5 h hl (by omega) htw
 have C6:Hid (∀w1,ZF w w1→Calls Tryz.prog 6 #[.slice (some ⟨tb,tf,none⟩) N tc] w1 (R6Post T w1)):=fun w1 f=>by rw[hN];exact read6 (h.fr f (fun h=>h)) hl (by omega) (Nat.lt_of_lt_of_le htw f.size)
 have e1:decide ((2147483647:Int) < (N:Int))=false:=by simp;omega
 have e2:decide ((N:Int) < 3)=false:=by simp;omega
 have e3:decide ((2000:Int) < (N:Int))=false:=by simp;omega
 have HC:=zH (⟨c0,c1,c2⟩:_∧_∧_)
 have HTX:=zH h
 have HTT:=zH ht
 have HTW:=zH htw
 have HT:=zH hT
 have HN:=zH (⟨hN,hn0,hn1,hn2⟩:_∧_∧_∧_)
 have HL:=zH (⟨hl,h3,h2⟩:_∧_∧_)
 have hn3:(3:Int)≤(N:Int):=by omega
 rw[←hN]
 clear h hl h3 h2 ht htw hT hN hn0 hn1 hn2 c0 c1 c2
 go_enter Tryz.func3,Tryz.ntmps3
 go_upto_region 3 with fail
 go_upto_if 27 with (go_at_call 5;refine C5.out.mono ?_;rintro e w1 ⟨z,rfl,f1⟩;have F1:=zH f1;clear f1)
 cases z with
 | false =>
  go_wp2_with fail
  go_ret
  exact⟨rfl,F1.out⟩
 | true =>
  have C:=zH (C6.out _ F1.out)
  go_upto_region 6 with (go_at_call 6;refine C.out.mono ?_;rintro e w2 ⟨kd,dm,na,n,nc,ka,mm,kc,a1,k1,j1,a2,k2,j2,ok,rfl,hp⟩)
  obtain⟨w3,hw3⟩:∃w3,w3=w2.alloc (.cells #[.int .i64 kd,.int .i64 dm,.slice na n nc,.slice ka mm kc,.slice a1 k1 j1,.slice a2 k2 j2] 30):=⟨_,rfl⟩
  have b3:=zN w2 (.cells #[.int .i64 kd,.int .i64 dm,.slice na n nc,.slice ka mm kc,.slice a1 k1 j1,.slice a2 k2 j2] 30)
  rw[←hw3] at b3 ⊢
  have f23:ZF w2 w3:=by rw[hw3];exact (Fr.refl _ w2).alloc _
  have F3:=zH ((F1.out.trans hp.out.1).trans f23)
  have HP:Hid (ok=true→∃g,GAt (T.length+4) (fun _=>True) w3 [.int .i64 kd,.int .i64 dm,.slice na n nc,.slice ka mm kc] (nw (T.length+4) g)∧RefOk T g):=fun e=>by
   obtain⟨g,h1,h2⟩:=hp.out.2 e
   exact⟨g,(GAt.kp _).kept (fun b _ hl=>f23.block b hl (fun h=>h)) h1,h2⟩
  have B3:=zH b3
  clear hp hw3 b3 f23 C C5 C6 F1
  obtain⟨t3,ht3⟩:∃t3,t3=w2.heap.size:=⟨_,rfl⟩
  rw[←ht3] at B3 ⊢
  have HT3:Hid (t3 < w3.heap.size):=(zG B3.out).1
  have c0:=F3.out.cell HC.out.1 (fun h=>h)
  have c1:=F3.out.cell HC.out.2.1 (fun h=>h)
  have c2:=F3.out.cell HC.out.2.2 (fun h=>h)
  clear ht3
  obtain⟨xy,hxy⟩:∃xy:Int,xy=unz ((n0 / 16:Nat):Int):=⟨_,rfl⟩
  have C7:Hid (∀w,Calls Tryz.prog 7 #[.int .u64 ((n0 / 16:Nat):Int)] w fun e w'=>e=.returned (.int .i64 xy)∧w=w'):=fun w=>by rw[hxy];exact unz7 _ (by omega) (by omega) w
  have HXY:=zH hxy
  have hw4:IntKind.u64.wrap ((n0:Int) / 16)=((n0 / 16:Nat):Int):=by
   rw[show (n0:Int) / 16=((n0 / 16:Nat):Int) by omega]
   simp[IntKind.wrap,IntKind.bits,IntKind.signed];omega
  clear hxy
  go_upto_region 7 with (go_at_call 7;refine (C7.out _).mono ?_;rintro e we ⟨rfl,rfl⟩)
  obtain⟨w4,hw4⟩:∃w4,w4=w3.alloc (.cells #[.int .i64 xy,.bool false,.bool false,.int .i64 0,.int .i64 0,.bool false,.bool false,.bool true,.slice none 0 0] 37):=⟨_,rfl⟩
  have b4:=zN w3 (.cells #[.int .i64 xy,.bool false,.bool false,.int .i64 0,.int .i64 0,.bool false,.bool false,.bool true,.slice none 0 0] 37)
  rw[←hw4] at b4 ⊢
  have F34:Hid (ZF w3 w4):=by show Fr _ _ _;rw[hw4];exact (Fr.refl _ w3).alloc _
  have B4:=zH b4
  obtain⟨t5,ht5⟩:∃t5,t5=w3.heap.size:=⟨_,rfl⟩
  rw[←ht5] at B4 ⊢
  have h35:t3 < t5:=by have:=HT3.out;omega
  have HT5:=zH ht5
  have hne1:¬tb=t5:=by have:=HTW.out;have:=F3.out.size;omega
  have hne2:¬t5=tb:=fun e=>hne1 e.symm
  clear hw4 b4 c0 C7 ht5
  have c1:=F34.out.cell c1 (fun h=>h)
  have c2:=F34.out.cell c2 (fun h=>h)
  obtain⟨x,hx⟩:∃x:Bool,x=(n1 / 8 % 2 == 1):=⟨_,rfl⟩
  have HX:=zH hx
  obtain⟨zp,hzp⟩:∃z:Nat,z=n2 / 4 % 8:=⟨_,rfl⟩
  obtain⟨mp,hmp⟩:∃m:Nat,m=n2 / 32:=⟨_,rfl⟩
  have HZM:=zH (⟨hzp,hmp⟩:_∧_)
  obtain⟨v8,hv8⟩:∃v8,v8=(if x=true then (8:Int) else 0):=⟨_,rfl⟩
  have e8:bits .and .u8 (n1:Int) 8=v8:=by
   have:=and8u ⟨n1,hb1⟩
   rw[hv8,hx]
   simpa using this
  have e9:(v8 != 0)=x:=by rw[hv8];cases x<;>rfl
  have e7:bits .and .u8 ((n2:Int) / 4) 7=(zp:Int):=by
   have:=and7u ⟨n2 / 4,by omega⟩
   simp only at this
   rw[hzp,←this];rfl
  have e5:(n2:Int) / 32=(mp:Int):=by omega
  have hzb:zp≤7:=by omega
  have hmz:IntKind.i64.wrap (zp:Int)=(zp:Int):=by simp[IntKind.wrap,IntKind.bits,IntKind.signed];omega
  have hmm:IntKind.i64.wrap (mp:Int)=(mp:Int):=by have:mp≤7:=(by omega);simp[IntKind.wrap,IntKind.bits,IntKind.signed];omega
  have hmb:mp≤7:=by omega
  clear hx hzp hmp hv8
  go_upto_if 44 with fail
  go_cut [] from 45 to 59 (fun wr=>∃z0 m0:Int,Hid ((x=true→z0=zp∧m0=mp)∧wr.heap[t5]?=some (.cells #[.int .i64 xy,.bool x,.bool x,.int .i64 z0,.int .i64 m0,.bool false,.bool false,.bool true,.slice none 0 0] 37 (0,0))∧Fr (Eq t5) w4 wr))
  case first =>
   obtain⟨p0,p1,p2,p3,p4,p5,p6,p7,p8⟩:=op_cells B4.out
   have fz:∀k,w4.frozen? ⟨t5,k,none⟩=false:=fun k=>zF B4.out k
   cases x with
   | false =>
    go_wp2_with fail
    go_meet
    exact⟨0,0,fun e=>(by cases e),B4.out,Fr.refl _ _⟩
   | true =>
    go_wp2_with fail
    go_region_with (fail)
    all_goals
     go_wp2_with fail
     go_meet
     exact⟨zp,mp,fun _=>⟨rfl,rfl⟩,law_box B4.out,(((((Fr.refl _ w4).setR _).setR _).setR _).setR _).drew⟩
  obtain⟨z0,m0,hcr⟩:=hcut
  rename World=>w5
  have F5:Hid (ZF w w5):=(F3.out.trans F34.out).transNew hcr.out.2.2 (fun b e=>.inl (by have:=F3.out.size;have:=HT5.out;omega))
  have B5:=zH hcr.out.2.1
  have HZ5:=zH hcr.out.1
  have k35:∀b,b < w3.heap.size→w5.heap[b]?=w3.heap[b]?:=fun b hb=>(hcr.out.2.2.block b (Nat.lt_of_lt_of_le hb F34.out.size) (by have:=HT5.out;omega)).trans (F34.out.block b hb (fun h=>h))
  have B35:Hid (w5.heap[t3]?=some (.cells #[.int .i64 kd,.int .i64 dm,.slice na n nc,.slice ka mm kc,.slice a1 k1 j1,.slice a2 k2 j2] 30 (0,0))):=(k35 t3 HT3.out).trans B3.out
  have HP5:Hid (ok=true→∃g,GAt (T.length+4) (fun _=>True) w5 [.int .i64 kd,.int .i64 dm,.slice na n nc,.slice ka mm kc] (nw (T.length+4) g)∧RefOk T g):=fun e=>by
   obtain⟨g,h1,h2⟩:=HP.out e
   exact⟨g,(GAt.kp _).kept (fun b _ hl=>k35 b hl) h1,h2⟩
  have KB:Hid (∀w6,ZF w5 w6→w6.heap[t3]?=some (.cells #[.int .i64 kd,.int .i64 dm,.slice na n nc,.slice ka mm kc,.slice a1 k1 j1,.slice a2 k2 j2] 30 (0,0))):=by
   have b:=B35.out
   exact fun w6 f=>(f.block t3 (zG b).1 (fun h=>h)).trans b
  obtain⟨q0,q1,q2,q3,q4,q5,_⟩:=t_cells B35.out
  obtain⟨p0,_⟩:=op_cells B5.out
  clear hcr c1 c2 HP B3 B4 F34 k35 B35 e8 e9 e7 e5 hmz hmm hw4
  cases ok with
  | false =>
   go_wp2_with fail
   go_ret
   exact⟨rfl,F5.out⟩
  | true =>
   obtain⟨g,hg,hr⟩:=HP5.out rfl
   obtain⟨zw,hzw⟩:∃z,z=isW (T.length+4) (nw (T.length+4) g):=⟨_,rfl⟩
   obtain⟨zs,hzs⟩:∃z,z=isS (T.length+4) (nw (T.length+4) g):=⟨_,rfl⟩
   have C8:Hid (∀w6,ZF w5 w6→Calls Tryz.prog 8 #[.agg #[.int .i64 kd,.int .i64 dm,.slice na n nc,.slice ka mm kc]] w6 (BoolPost zw w6)):=fun w6 f=>by
    rw[hzw]
    exact whole8 _ _ _ _ _ _ _ _ ((GAt.kp _).kept (fun b _ hl=>f.block b hl (fun h=>h)) hg)
   have C9:Hid (∀w6,ZF w5 w6→Calls Tryz.prog 9 #[.agg #[.int .i64 kd,.int .i64 dm,.slice na n nc,.slice ka mm kc],.func (.func 10) #[] #[]] w6 (BoolPost zs w6)):=fun w6 f=>by
    rw[hzs]
    exact all9 _ _ _ _ _ _ _ _ ((GAt.kp _).kept (fun b _ hl=>f.block b hl (fun h=>h)) hg)
   have hgk:kd=(nw (T.length+4) g).kind:=hg.kd.1
   have HR:=zH (⟨hr,hzw,hzs,hgk⟩:_∧_∧_∧_)
   clear hr hzw hzs hgk hg HP5
   by_cases hx0:xy < 0
   ·have e1:decide (xy < 0)=true:=decide_eq_true hx0
    go_wp2_with fail
    go_ret
    exact⟨rfl,F5.out⟩
   ·have e1:decide (xy < 0)=false:=decide_eq_false hx0
    by_cases hk0:kd=0
    ·subst hk0
     go_wp2_with fail
     go_ret
     exact⟨rfl,F5.out⟩
    ·have e2:(kd == 0)=false:=by simpa using hk0
     cases zw with
     | false =>
      go_wp2_with (go_at_call 8;(with_reducible refine (C8.out _ (Fr.refl _ _)).mono ?_);rintro e w6 ⟨rfl,f6⟩;have F6:=zH f6;clear f6)
      go_ret
      exact⟨rfl,F5.out.trans F6.out⟩
     | true =>
      cases zs with
      | false =>
       go_wp2_with (first|(go_at_call 8;(with_reducible refine (C8.out _ (Fr.refl _ _)).mono ?_);rintro e w6 ⟨rfl,f6⟩;have F6:=zH f6;clear f6;obtain⟨q0,q1,q2,q3,q4,q5,_⟩:=t_cells (KB.out _ F6.out))|(go_at_call 9;(with_reducible refine (C9.out _ F6.out).mono ?_);rintro e w7 ⟨rfl,f7⟩;have F7:=zH (F6.out.trans f7);clear f7))
       go_ret
       exact⟨rfl,F5.out.trans F7.out⟩
      | true =>
       have hxy0:xy=unz ((b0.toNat / 16:Nat):Int):=by rw[HXY.out,HN.out.2.1]
       obtain⟨k,dim,c,p,z,m,s,is,l0,l1,hag⟩:=ag_facts HT.out HR.out.1 (by rw[←hxy0];omega) (by rw[←HR.out.2.2.2];exact hk0) HR.out.2.1.symm HR.out.2.2.1.symm
       have AG:=zH hag
       have hT2:=HL.out.2.2
       have hxp:xy=(p:Int):=hxy0.trans hag.xy
       have hpl:(prs dim p z m).length=wd dim:=prs_len _ _ _ _
       obtain⟨hso,hgo⟩:=sound hpl hag.ws hag.ne hag.sm
       have hzm:(x=false∧z=p∧m=p)∨(x=true∧z0=z∧m0=m):=by
        have hx:=HX.out
        rw[HN.out.2.2.1] at hx
        cases hxb:x with
        | false=>exact .inl ⟨rfl,hag.e0 (by rw[←hx,hxb])⟩
        | true =>
         obtain⟨y1,y2⟩:=hag.e1 (by rw[←hx,hxb])
         obtain⟨y3,y4⟩:=HZ5.out hxb
         refine .inr ⟨rfl,?_,?_⟩
         ·rw[y3,HZM.out.1,y1,HN.out.2.2.2]
         ·rw[y4,HZM.out.2,y2,HN.out.2.2.2]
       have C11:Hid (∀w',ZF w w'→Calls Tryz.prog 11 #[.slice (some ⟨tb,tf,none⟩) N tc,.bool false] w' (RdPost k dim s w')):=fun w' f=>by
        rw[HN.out.1]
        exact read11 (HTX.out.fr f (fun h=>h)) (Nat.lt_of_lt_of_le HTW.out f.size) ⟨HL.out.1,by omega⟩ (HTT.out.fr f (fun h=>h) (fun h=>h)) hag.hk hag.hd hag.head (by omega) hag.em (by omega) (prs_rf _) hag.body hag.ne
       obtain⟨T2,hT2'⟩:∃T2,T2=docE k dim p z m (prs dim p z m) s:=⟨_,rfl⟩
       have C12:Hid (∀w' (P:Nat→Prop) na n nc ka mm kc,ZF w w'→GAt 3 P w' [.int .i64 k,.int .i64 dim,.slice na n nc,.slice ka mm kc] (toG k dim s)→Calls Tryz.prog 12 #[.agg #[.int .i64 k,.int .i64 dim,.slice na n nc,.slice ka mm kc],.agg #[.int .i64 xy,.bool x,.bool x,.int .i64 z0,.int .i64 m0,.bool false,.bool false,.bool true,.slice none 0 0]] w' (TePost T2 w')):=fun w' P na n nc ka mm kc f hg=>by
        rw[hxp,hT2']
        exact wt12 hag.hk hag.hd hag.hp hag.hz hag.hm (HTT.out.fr f (fun h=>h) (fun h=>h)) hg hgo hso (by have:=(hag.sizes hT2).1;omega) hzm
       have C13:Hid (∀w' g cc,ZF w w'→TxAt g 0 T2 w'→T2.length≤cc→g < w'.heap.size→Calls Tryz.prog 11 #[.slice (some ⟨g,0,none⟩) T2.length cc,.bool false] w' (RdPost k dim s w')):=fun w' g cc f h1 h2 h3=>by
        rw[hT2'] at h1 h2 ⊢
        exact hag.again hT2 (HTT.out.fr f (fun h=>h) (fun h=>h)) h1 h2 h3
       clear hag hT2 hxp hpl hso hgo hzm hT2' hxy0 hk0
       have KO:Hid (∀w6,ZF w5 w6→w6.heap[t5]?=some (.cells #[.int .i64 xy,.bool x,.bool x,.int .i64 z0,.int .i64 m0,.bool false,.bool false,.bool true,.slice none 0 0] 37 (0,0))):=fun w6 f=>(f.block t5 (zG B5.out).1 (fun h=>h)).trans B5.out
       go_upto_region 11 with (first|(go_at_call 8;(with_reducible refine (C8.out _ (Fr.refl _ _)).mono ?_);rintro e w6 ⟨rfl,f6⟩;have F6:=zH f6;clear f6;obtain⟨q0,q1,q2,q3,q4,q5,_⟩:=t_cells (KB.out _ F6.out))|(go_at_call 9;(with_reducible refine (C9.out _ F6.out).mono ?_);rintro e w7 ⟨rfl,f7⟩;have F7:=zH (F6.out.trans f7);clear f7))
       have F8:=zH (F5.out.trans F7.out)
       go_upto_region 12 with (go_at_call 11;(with_reducible refine (C11.out _ F8.out).mono ?_);rintro e w8 ⟨na2,nn2,nc2,ka2,mm2,kc2,aa2,ab2,ac2,ba2,bb2,bc2,rfl,hp⟩)
       obtain⟨w9,hw9⟩:∃w9,w9=w8.alloc (.cells #[.int .i64 k,.int .i64 dim,.slice na2 nn2 nc2,.slice ka2 mm2 kc2,.slice aa2 ab2 ac2,.slice ba2 bb2 bc2] 30):=⟨_,rfl⟩
       have b9:=zN w8 (.cells #[.int .i64 k,.int .i64 dim,.slice na2 nn2 nc2,.slice ka2 mm2 kc2,.slice aa2 ab2 ac2,.slice ba2 bb2 bc2] 30)
       rw[←hw9] at b9 ⊢
       have f89:ZF w8 w9:=by rw[hw9];exact (Fr.refl _ w8).alloc _
       have F59:=zH ((F7.out.trans hp.out.1).trans f89)
       have G9:Hid (GAt 3 (fun _=>True) w9 [.int .i64 k,.int .i64 dim,.slice na2 nn2 nc2,.slice ka2 mm2 kc2] (toG k dim s)):=(GAt.kp 3).mono (fun _ _ _=>trivial) ((GAt.kp 3).kept (fun b _ hl=>f89.block b hl (fun h=>h)) hp.out.2)
       have C:=zH (C12.out w9 _ _ _ _ _ _ _ (F5.out.trans F59.out) G9.out)
       obtain⟨t6,ht6⟩:∃t6,t6=w8.heap.size:=⟨_,rfl⟩
       rw[←ht6] at b9 ⊢
       have B9:=zH b9
       clear hw9 b9 f89 ht6 hp C12 C11 C8 C9 q0 q1 q2 q3 q4 q5 p0
       obtain⟨q0,q1,q2,q3,q4,q5,_⟩:=t_cells B9.out
       obtain⟨p0,p1,p2,p3,p4,p5,p6,p7,p8⟩:=op_cells (KO.out _ F59.out)
       go_upto_region 13 with (go_at_call 12;(with_reducible refine C.out.mono ?_);rintro e w10 ⟨gc,cc,rfl,hq⟩)
       have F910:=zH hq.out.2.2.2.2
       have C':=zH (C13.out w10 gc cc ((F5.out.trans F59.out).trans F910.out) hq.out.2.2.2.1 hq.out.1 hq.out.2.2.1)
       clear hq C q0 q1 q2 q3 q4 q5 p0 p1 p2 p3 p4 p5 p6 p7 p8
       go_upto_region 14 with (go_at_call 11;(with_reducible refine C'.out.mono ?_);rintro e w11 ⟨na3,nn3,nc3,ka3,mm3,kc3,aa3,ab3,ac3,ba3,bb3,bc3,rfl,hp⟩)
       obtain⟨w12,hw12⟩:∃w12,w12=w11.alloc (.cells #[.int .i64 k,.int .i64 dim,.slice na3 nn3 nc3,.slice ka3 mm3 kc3,.slice aa3 ab3 ac3,.slice ba3 bb3 bc3] 30):=⟨_,rfl⟩
       have b12:=zN w11 (.cells #[.int .i64 k,.int .i64 dim,.slice na3 nn3 nc3,.slice ka3 mm3 kc3,.slice aa3 ab3 ac3,.slice ba3 bb3 bc3] 30)
       rw[←hw12] at b12 ⊢
       have f1112:ZF w11 w12:=by rw[hw12];exact (Fr.refl _ w11).alloc _
       have F912:=zH ((F910.out.trans hp.out.1).trans f1112)
       have G12:Hid (GAt 3 (fun b=>w10.heap.size≤b) w12 [.int .i64 k,.int .i64 dim,.slice na3 nn3 nc3,.slice ka3 mm3 kc3] (toG k dim s)):=(GAt.kp 3).kept (fun b _ hl=>f1112.block b hl (fun h=>h)) hp.out.2
       have CS:Hid (Calls Tryz.prog 13 #[.agg #[.int .i64 k,.int .i64 dim,.slice na2 nn2 nc2,.slice ka2 mm2 kc2],.agg #[.int .i64 k,.int .i64 dim,.slice na3 nn3 nc3,.slice ka3 mm3 kc3]] w12 (TruePost w12)):=same13 3 _ _ _ _ _ _ _ _ _ _ _ _ ((GAt.kp 3).kept (fun b _ hl=>F912.out.block b hl (fun h=>h)) G9.out) G12.out
       obtain⟨q0,q1,q2,q3,q4,q5,_⟩:=t_cells ((F912.out.block t6 (zG B9.out).1 (fun h=>h)).trans B9.out)
       obtain⟨r0,r1,r2,r3,r4,r5,_⟩:=t_cells b12
       clear hw12 b12 f1112 hp C' C13
       go_wp2_with (go_at_call 13;(with_reducible refine CS.out.mono ?_);rintro e w13 ⟨rfl,f13⟩;have F13:=zH f13;clear f13)
       go_ret
       exact⟨rfl,((F5.out.trans F59.out).trans F912.out).trans F13.out⟩
end Go.Proofs.YtnjjgbcmjnfijaaGreatDoor
