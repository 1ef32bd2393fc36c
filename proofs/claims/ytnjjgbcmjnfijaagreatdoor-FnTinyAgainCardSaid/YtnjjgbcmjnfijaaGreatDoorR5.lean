/- The package's reader of tiny bytes: a polygon. No condition. -/
import Derived.Test.YtnjjgbcmjnfijaaGreatDoorR4
import Derived.Deep.RegionHeld3
namespace Go.Proofs.YtnjjgbcmjnfijaaGreatDoor
set_option maxRecDepth 100000
set_option maxHeartbeats 8000000
open Go.RowKit
theorem own_of_block{w:World}{g B:Nat}{ys:List Nat}(h:w.heap[g]?=some (.cells (ys.map flv).toArray 40 (0,0)))(hB:B≤g)(hl:ys.length≤1000000):w.ownsRow B 40 1 (.slice (some ⟨g,0,none⟩) ys.length ys.length) ys.length (ys.map flv):=by
 refine⟨by simp,.inr ⟨g,ys.length,(ys.map flv).toArray,rfl,hB,h,Nat.le_refl _,?_,by simp,by rw[Nat.mul_one];exact List.take_of_length_le (by simp)⟩⟩
 unfold maxLen
 omega
theorem rows_next{α:Type}{E:(Nat→Prop)→World→List Value→α→Prop}(hE:Kp E){B tid s:Nat}{wo wc:World}{v:Value}{xs:List α}(h:OwnRows E B tid s wo v xs)(f:∀b,B≤b→b < wo.heap.size→wc.heap[b]?=wo.heap[b]?)(hB:B≤wo.heap.size){c:List Value}{x:α}(hc:c.length=s)(hx:E (fun b=>wo.heap.size≤b) wc c x):
  ∃cs,wc.ownsRow B tid s v xs.length cs∧∀(o:Obj) (w7:World) (v':Value),w7.ownsRow B tid s v' (xs.length+1) (cs++c)→(wc.alloc o).grownBy w7 v.ownBlock→(v'.ownBlock=v.ownBlock∨v'.ownBlock=some (wc.alloc o).heap.size) →
   OwnRows E B tid s w7 v' (xs++[x])∧Fr (fun b=>B≤b) wc w7:=by
 obtain⟨css,o1,o2,o3⟩:=h.kept hE f
 refine⟨css.flatten,o1,fun o w7 v' p1 p2 p3=>?_⟩
 have ha:(wc.alloc o).heap.size=wc.heap.size+1:=by show (wc.heap.push _).size=_;rw[Array.size_push]
 have hkv:∀b,v.ownBlock=some b→B≤b∧b < wo.heap.size:=fun b hb=>by
  have a1:=o1.lt b hb
  obtain⟨cs2,a2⟩:=h.own
  exact⟨a1.1,(a2.lt b hb).2⟩
 have hx':E (Off B v) (wc.alloc o) c x:=by
  refine (hE.kept (w:=wc) (fun b _ hb=>Below.heap_alloc wc o b hb) (hE.mono (P:=fun b=>wo.heap.size≤b) (fun b hb _=>⟨by omega,fun e=>?_⟩) hx))
  have:=(hkv b e.symm).2
  omega
 have o3':∀(i:Nat) (c:List Value) (x:α),css[i]?=some c→xs[i]?=some x→c.length=s∧E (Off B v) (wc.alloc o) c x:=fun i c x hc hx=>⟨(o3 i c x hc hx).1,hE.kept (w:=wc) (fun b _ hb=>Below.heap_alloc wc o b hb) (o3 i c x hc hx).2⟩
 exact⟨OwnRows.snoc hE o2 o3' hc hx' p1 p2 p3,((Fr.refl _ wc).alloc o).grown p2 (fun b hb=>.inr (hkv b hb).1)⟩
theorem cell2_new(w:World)(c0 c1:Value)(t:TypeId):∀j u,[c0,c1][j]?=some u→(w.alloc (.cells #[c0,c1] t)).cell? ((⟨w.heap.size,0,none⟩:Addr).add j)=some u:=by
 intro j u hj
 have e:(⟨w.heap.size,0,none⟩:Addr).add j=⟨w.heap.size,j,none⟩:=by cases j<;>simp[Addr.add]
 rw[e,zC (zN w _)]
 match j,hj with
 | 0,hj=>simpa using hj
 | 1,hj=>simpa using hj
 | j+2,hj=>simp at hj
theorem al4_new(w:World)(A B C D:Obj):((((w.alloc A).alloc B).alloc C).alloc D).heap[w.heap.size+3]?=some D∧((((w.alloc A).alloc B).alloc C).alloc D).heap.size=w.heap.size+4:=by
 have s1:(w.alloc A).heap.size=w.heap.size+1:=by show (w.heap.push _).size=_;rw[Array.size_push]
 have s2:((w.alloc A).alloc B).heap.size=w.heap.size+2:=by show ((w.alloc A).heap.push _).size=_;rw[Array.size_push,s1]
 have s3:(((w.alloc A).alloc B).alloc C).heap.size=w.heap.size+3:=by show (((w.alloc A).alloc B).heap.push _).size=_;rw[Array.size_push,s2]
 refine⟨?_,by show ((((w.alloc A).alloc B).alloc C).heap.push _).size=_;rw[Array.size_push,s3]⟩
 rw[←s3]
 exact zN _ _
structure PgAt (pb tb tf tc:Nat) (T:List UInt8) (p:Pr) (ps:List Int) (mx:Nat) (l':List UInt8) (Q':List Int) (w:World) (B:Nat) (all:List (List (Int × Int))) (i:Nat) (v:Value) (wr:World):Prop where
 fr:Fr (Eq pb) w wr
 st:∃(q:Nat) (rf:Nat→Int) (Q:List Int) (dn rest:List (List (Int × Int))),p.pos≤q∧q≤T.length∧PrAt pb tb tf tc T { p with pos:=q,rf:=rf } wr∧RfOk rf Q∧all=dn++rest∧dn.length=i∧SqP (RingP mx ps) rest.length Q (T.drop q) rest Q' l'∧OwnRows (LnE p.dm) B 121 2 wr v (dn.map (·.map flp))
def PgPost (pb tb tf tc:Nat) (T:List UInt8) (p:Pr) (xs:List (List (Int × Int))) (Q':List Int) (l':List UInt8) (w:World) (e:Ending) (w':World):Prop :=
 ∃g n c:Nat,e=.returned (.tuple #[.agg #[.slice (some ⟨g,0,none⟩) n c,.int .u8 p.dm],.nilIface])∧∃(q:Nat) (rf:Nat→Int),Hid (n≤c∧RwE (LnE p.dm) 2 p.dm (fun b=>w.heap.size≤b) w' [.slice (some ⟨g,0,none⟩) n c,.int .u8 p.dm] (xs.map (·.map flp))∧p.pos≤q∧q≤T.length∧l'=T.drop q∧PrAt pb tb tf tc T { p with pos:=q,rf:=rf } w'∧RfOk rf Q'∧Fr (Eq pb) w w')
theorem SqP.split{α:Type}{R:List Int→List UInt8→α→List Int→List UInt8→Prop}{n:Nat}{Q Q':List Int}{l l':List UInt8}{x:α}{xs:List α}(h:SqP R n Q l (x :: xs) Q' l'):∃Q1 l1 k,n=k+1∧R Q l x Q1 l1∧SqP R k Q1 l1 xs Q' l':=by
 cases h with
 | cons h1 h2=>exact⟨_,_,_,rfl,h1,h2⟩
theorem poly195{pb tb tf tc:Nat}{T:List UInt8}{p:Pr}{w:World}(h:PrAt pb tb tf tc T p w)(htw:tb < w.heap.size){mx:Nat}(hmx:mx≤5000){ps Q0 Q':List Int}{l':List UInt8}{xs:List (List (Int × Int))}(ho:ScOk p ps)(hrf:RfOk p.rf Q0)(hr:PolyP mx ps Q0 (T.drop p.pos) xs Q' l')(hd:DmOk p ps)(hne:xs≠[])(hne2:∀x∈xs,x≠[]):
  Calls Tryz.prog 195 #[.pointer (some ⟨pb,0,none⟩)] w (PgPost pb tb tf tc T p xs Q' l' w):=by
 obtain⟨n,l0,hn,hu,hs⟩:=hr
 obtain⟨i0,hi0,hz0,hz1,hz2⟩:=info_parts info40
 obtain⟨j0,hj0,jz0,jz1,jz2⟩:=info_parts info121
 have hpb:=h.lt
 have hnl:=hs.len
 have hn0:0 < n:=by
  rw[←hnl]
  exact List.length_pos_iff.2 hne
 have hnI:(n:Int)≤4096:=by omega
 obtain⟨w0,hw0⟩:∃w0,w0=w.alloc (.cells #[.slice none 0 0,.int .u8 0] 126):=⟨_,rfl⟩
 have f0:ZF w w0:=by rw[hw0];exact (Fr.refl _ w).alloc _
 have s0:w0.heap.size=w.heap.size+1:=by rw[hw0];show (w.heap.push _).size=_;rw[Array.size_push]
 have b0:w0.heap[w.heap.size]?=some (.cells #[.slice none 0 0,.int .u8 0] 126 (0,0)):=by rw[hw0];exact zN w _
 have C238:=zH (uvar238 (h.keep f0) hu)
 have HS:=zH hs
 have HNL:=zH hnl
 have HO:=zH ho
 have HRF:=zH hrf
 have HD:=zH hd
 have HNE2:=zH hne2
 have HW0:=zH hw0
 have F0:=zH f0
 have B0:=zH b0
 obtain⟨m,hm⟩:∃m,m=ps.length:=⟨_,rfl⟩
 have hm2:=ho.lo
 have hm4:=ho.hi
 rw[←hm] at hm2 hm4
 have HM:=zH hm
 obtain⟨d,hdd⟩:∃d,d=p.dm:=⟨_,rfl⟩
 have hd3:d≤3:=by rw[hdd];exact hd.le
 have HDD:=zH hdd
 clear h hu hs ho hrf hd hne hne2 hw0 f0 b0 hnl hm hdd
 go_enter Tryz.func195,Tryz.ntmps195
 go_upto_region 1 with fail
 rw[←HW0.out]
 go_upto_region 2 with (go_at_call 238;refine C238.out.mono ?_;rintro e w1 ⟨rfl,q1,h1⟩)
 have P1:Hid (PgAt pb tb tf tc T p ps mx l' Q' w0 (w.heap.size+1) xs 0 (.slice none 0 0) w1):=⟨h1.out.2.2.2.2,q1,p.rf,Q0,[],xs,by have h5:=h1.out.1;omega,h1.out.2.1,h1.out.2.2.2.1,HRF.out,rfl,rfl,by rw[HNL.out,←h1.out.2.2.1];exact HS.out,OwnRows.nil⟩
 go_upto_region 6 with fail
 go_loopw [6,7] (fun vv iv wr=>∃(i:Nat) (va:Option Addr) (vc:Nat),i≤n∧iv=.int .u64 (i:Int)∧vv=.slice va i vc∧Hid (PgAt pb tb tf tc T p ps mx l' Q' w0 (w.heap.size+1) xs i (.slice va i vc) wr)) (fun _ iv _=>n - (intOf iv).toNat)
 case atStart=>exact⟨0,none,0,Nat.zero_le _,rfl,rfl,P1.out⟩
 case round =>
  obtain⟨i,va,vc,hi,rfl,rfl,hrel⟩:=hrel
  by_cases hlt:i < n
  ·obtain⟨q,rf,Q,dn,rest,hq1,hq2,hpr,hrf,hall,hdn,hsq,hown⟩:=hrel.out.st
   obtain⟨x,rest',hrs⟩:∃x rest',rest=x :: rest':=by
    cases rest with
    | nil =>
     exfalso
     have h3:=HNL.out
     rw[hall] at h3
     simp at h3
     omega
    | cons x rest'=>exact⟨x,rest',rfl⟩
   subst hrs
   obtain⟨Q1,l1,k,hk,⟨ys,hline,hx⟩,hsq'⟩:=hsq.split
   have hkr:k=rest'.length:=by simpa using hk.symm
   subst hkr
   have C241:=zH (line241 (p:={ p with pos:=q,rf:=rf }) hpr (by have:=hrel.out.fr.size;omega) hmx ⟨HO.out.dims,HO.out.lo,HO.out.hi,HO.out.bd,HO.out.sc⟩ hrf hline)
   rw[←HM.out] at C241
   have HWR:Hid (∃k,WR ps k (closedP m ys)):=by
    obtain⟨k0,l2,_,_,hrow⟩:=hline
    have hp0:0 < ps.length:=by rw[←HM.out];omega
    obtain⟨k1,_,hw1⟩:=(hrow.wr hp0).closed hp0
    rw[←HM.out] at hw1
    exact⟨k1,hw1⟩
   obtain⟨wo,hwo⟩:∃wo,wo=wr:=⟨_,rfl⟩
   subst hwo
   have REL:=hrel
   have HX:=zH hx
   have HALL:=zH hall
   have HDN:=zH hdn
   have HSQ:=zH hsq'
   have HOWN:=zH hown
   have HQ1:=zH hq1
   have HSM:Hid (w.heap.size+1≤wo.heap.size):=by show _≤_;have:=hrel.out.fr.size;omega
   clear hrel hq1 hq2 hpr hrf hall hdn hsq hown hline hx hsq' hk
   go_upto_region 8 with fail
   go_upto_region 9 with (go_at_call 241;refine C241.out.mono ?_;rintro e w2 ⟨g,n1,rfl,q2,rf2,h2⟩)
   obtain⟨N,hN⟩:∃N,N=ys.length:=⟨_,rfl⟩
   rw[←hN]
   have hNm:N=n1*m:=by rw[hN];exact h2.out.2.2.1
   have hn1:=h2.out.2.1
   obtain⟨A,hA⟩:∃A,A=ys.map flp:=⟨_,rfl⟩
   have hAl:A.length=N:=by rw[hA,List.length_map,hN]
   have hNb:N≤20000:=by rw[hNm];exact Nat.le_trans (Nat.mul_le_mul hn1 hm4) (by decide)
   have HG:Hid (w2.heap[g]?=some (.cells (A.map flv).toArray 40 (0,0))):=by rw[hA];exact h2.out.2.2.2.2.2.2.2.2.2
   have HP2:Hid (PrAt pb tb tf tc T { p with pos:=q2,rf:=rf2 } w2):=h2.out.2.2.2.2.2.2.1
   have HF2:Hid (Fr (Eq pb) wo w2):=h2.out.2.2.2.2.2.2.2.2.1
   have HGB:Hid (wo.heap.size≤g):=h2.out.1
   have OW0:Hid (w2.ownsRow wo.heap.size 40 1 (.slice (some ⟨g,0,none⟩) N N) N (A.map flv)):=by
    have:=own_of_block (B:=wo.heap.size) HG.out HGB.out (by omega)
    rw[hAl] at this
    exact this
   have HC:Hid (closedP m ys=if n1 < 2∨eqFs (A.take m) (A.drop (N - m))=true then ys else ys++ys.take m):=by
    show _=_
    unfold closedP
    rw[List.map_take,List.map_drop,←hA,←hN]
    have e:(N < 2*m) ↔ (n1 < 2):=by rw[hNm];constructor<;>intro h<;>(rcases Nat.lt_or_ge n1 2 with h3|h3;first|exact h3|skip)<;>(first|(have:=Nat.mul_le_mul_right m h3;omega)|(have:=Nat.mul_lt_mul_of_pos_right h3 (show 0 < m by omega);omega))
    simp only[e]
   have HAl:=zH hAl
   have HA:=zH hA
   have HNm:=zH hNm
   have HNy:=zH hN
   clear hN hA hAl hNm
   go_upto_if 43 with fail
   go_cut [8,11,12,13,14,15] from 43 to 86 (fun cv _ _ _ _ _ wr=>∃g' n' c':Nat,cv=.slice (some ⟨g',0,none⟩) n' c'∧Hid (n'=(closedP m ys).length∧n'≤30000∧wr.ownsRow wo.heap.size 40 1 (.slice (some ⟨g',0,none⟩) n' c') n' (((closedP m ys).map flp).map flv)∧Fr (Eq pb) wo wr∧PrAt pb tb tf tc T { p with pos:=q2,rf:=rf2 } wr))
   case first =>
    by_cases hn2:n1 < 2
    ·have HR:Hid (N=(closedP m ys).length∧N≤30000∧w2.ownsRow wo.heap.size 40 1 (.slice (some ⟨g,0,none⟩) N N) N (((closedP m ys).map flp).map flv)∧Fr (Eq pb) wo w2∧PrAt pb tb tf tc T { p with pos:=q2,rf:=rf2 } w2):=by
      have e:closedP m ys=ys:=by rw[HC.out,if_pos (.inl hn2)]
      show _∧_
      rw[e,←HA.out]
      exact⟨HNy.out,by omega,OW0.out,HF2.out,HP2.out⟩
     go_wp2_with fail
     go_meet
     exact⟨g,N,N,rfl,HR.out⟩
    ·have hn2':2≤n1:=by omega
     have hn2I:(2:Int)≤(n1:Int):=by omega
     have hn5:(n1:Int)≤5000:=by omega
     obtain⟨M1,hM1⟩:∃M1,M1=N - m:=⟨_,rfl⟩
     have hMN:M1+m=N:=by
      have h5:2*m≤n1*m:=Nat.mul_le_mul_right _ hn2'
      have h6:=HNm.out
      omega
     have emul:IntKind.i64.wrap (((n1:Int) - 1)*(m:Int))=(M1:Int):=by
      obtain⟨r,hr⟩:∃r,n1=r+1:=⟨n1 - 1,by omega⟩
      have h7:r*m=M1:=by
       have h6:=HNm.out
       rw[hr,Nat.succ_mul] at h6
       omega
      have h1:((n1:Int) - 1)*(m:Int)=((r*m:Nat):Int):=by rw[hr];simp
      rw[h1,h7]
      simp[IntKind.wrap,IntKind.bits,IntKind.signed]
      omega
     have HC2:Hid (closedP m ys=if eqFs (A.take m) (A.drop M1)=true then ys else ys++ys.take m):=by
      show _=_
      rw[HC.out,hM1]
      by_cases he:eqFs (A.take m) (A.drop (N - m))=true
      ·rw[if_pos (.inr he),if_pos he]
      ·rw[if_neg (fun h=>h.elim (fun h=>hn2 h) he),if_neg he]
     have hdims:({ p with pos:=q2,rf:=rf2 }:Pr).dims=m:=by rw[HM.out];exact HO.out.dims
     have c4:=HP2.out.c4
     rw[hdims] at c4
     have hMI:(M1:Int)+(m:Int)=(N:Int):=by omega
     have HMN:=zH hMN
     have HDM:=zH hdims
     clear hM1 hMN hdims HC
     go_upto_region 14 with fail
     go_loop [11,12] (fun fv dv=>∃k:Nat,k≤m∧dv=.int .i64 (k:Int)∧fv=.bool false∧Hid (eqFs (A.take m) (A.drop M1)=eqFs ((A.take m).drop k) ((A.drop M1).drop k))) (fun _ dv=>m - (intOf dv).toNat)
     case atStart=>exact⟨0,Nat.zero_le _,rfl,rfl,rfl⟩
     case round =>
      obtain⟨k,hk,rfl,rfl,hrel⟩:=hrel
      by_cases hkm:k < m
      ·have e1:k < (A.take m).length:=by rw[List.length_take,HAl.out];have:=HMN.out;omega
       have e2:k < (A.drop M1).length:=by rw[List.length_drop,HAl.out];have:=HMN.out;omega
       have hkA:k < A.length:=by rw[HAl.out];have:=HMN.out;omega
       have hkB:k+M1 < A.length:=by rw[HAl.out];have:=HMN.out;omega
       obtain⟨x0,hx0⟩:∃x0,x0=A.getD k 0:=⟨_,rfl⟩
       obtain⟨y0,hy0⟩:∃y0,y0=A.getD (k+M1) 0:=⟨_,rfl⟩
       have g1:w2.cell? ⟨g,k,none⟩=some (.float .f64 x0):=by rw[hx0];exact fl_at HG.out k hkA
       have g2:w2.cell? ⟨g,k+M1,none⟩=some (.float .f64 y0):=by rw[hy0];exact fl_at HG.out (k+M1) hkB
       have HS:Hid (eqFs (A.take m) (A.drop M1)=(eqF x0 y0 && eqFs ((A.take m).drop (k+1)) ((A.drop M1).drop (k+1)))):=by
        show _=_
        rw[hrel.out,eqFs_drop e1 e2,List.getElem_take,List.getElem_drop,hx0,hy0]
        simp[List.getD_eq_getElem?_getD,hkA,show M1+k < A.length by omega,Nat.add_comm k M1]
       have hkI:(k:Int) < (N:Int):=by have:=HMN.out;omega
       have hkJ:(k:Int)+(M1:Int) < (N:Int):=by have:=HMN.out;omega
       clear hx0 hy0 hrel e1 e2 hkA hkB
       cases hf:eqF x0 y0 with
       | true =>
        have hcmp:(FloatKind.f64.format.order x0 y0 != some .eq)=false:=by
         have:(FloatKind.f64.format.order x0 y0 == some .eq)=true:=hf
         simp[bne,this]
        have HS2:Hid (eqFs (A.take m) (A.drop M1)=eqFs ((A.take m).drop (k+1)) ((A.drop M1).drop (k+1))):=by
         show _=_
         rw[HS.out,hf];rfl
        clear hf HS
        go_wp2_with fail
        go_round
        case rel=>exact⟨k+1,by omega,by go_num,rfl,HS2.out⟩
        case measure=>simp[intOf];omega
       | false =>
        have hcmp:(FloatKind.f64.format.order x0 y0 != some .eq)=true:=by
         have:(FloatKind.f64.format.order x0 y0 == some .eq)=false:=hf
         simp[bne,this]
        have HS2:Hid (closedP m ys=ys++ys.take m):=by
         show _=_
         rw[HC2.out,HS.out,hf];rfl
        clear hf HS
        go_upto_region 22 with fail
        clear hcmp g1 g2
        go_loopw [8,15] (fun cv dv wr=>∃(k3 g3 c3:Nat),k3≤m∧dv=.int .i64 (k3:Int)∧cv=.slice (some ⟨g3,0,none⟩) (N+k3) c3∧Hid (wr.ownsRow wo.heap.size 40 1 (.slice (some ⟨g3,0,none⟩) (N+k3) c3) (N+k3) ((A++A.take k3).map flv)∧Fr (Eq pb) wo wr∧PrAt pb tb tf tc T { p with pos:=q2,rf:=rf2 } wr)) (fun _ dv _=>m - (intOf dv).toNat)
        case atStart=>exact⟨0,g,N,Nat.zero_le _,rfl,rfl,by rw[List.take_zero,List.append_nil];exact OW0.out,HF2.out,HP2.out⟩
        case round =>
         obtain⟨k3,g3,c3,hk3,rfl,rfl,hrel⟩:=hrel
         have c4:=hrel.out.2.2.c4
         rw[HDM.out] at c4
         by_cases hkm3:k3 < m
         ·have hkA:k3 < A.length:=by rw[HAl.out];have:=HMN.out;omega
          obtain⟨x0,hx0⟩:∃x0,x0=A.getD k3 0:=⟨_,rfl⟩
          have g1:wr.cell? ⟨g3,k3,none⟩=some (.float .f64 x0):=by
           have:=hrel.out.1.cellAt k3 (by omega)
           rw[this,hx0]
           simp[hkA,flv,List.getElem?_append_left]
          have HA3:Hid (A.take (k3+1)=A.take k3++[x0]):=by
           show _=_
           rw[List.take_succ_eq_append_getElem hkA,hx0]
           simp[hkA]
          have hkI:(k3:Int) < (N:Int)+(k3:Int):=by have:=HMN.out;omega
          have hkN:((N+k3:Nat):Int)=(N:Int)+(k3:Int):=by omega
          have K3:Hid (N+k3+1≤maxLen):=by show _≤_;unfold maxLen;omega
          have K4:Hid ((N+k3+1)*8≤140737488355328):=by show _≤_;omega
          have K5:Hid (wo.heap.size≤(wr.alloc (.cells #[.float .f64 x0] 40)).heap.size):=by
           have:=hrel.out.2.1.size
           show _≤(wr.heap.push _).size
           rw[Array.size_push];omega
          have K7:Hid ((wr.alloc (.cells #[.float .f64 x0] 40)).ownsRow wo.heap.size 40 1 (.slice (some ⟨g3,0,none⟩) (N+k3) c3) (N+k3) ((A++A.take k3).map flv)):=hrel.out.1.alloc _
          clear hx0 hkA
          go_upto_region 23 with (at_builtin;refine wpList_append_own_at _ rfl _ _ 24 rfl wo.heap.size 40 i0 (.float .f64 0) 1 8 Tryz.underlying24 hi0 hz0 hz1 hz2 rfl (by decide) _ _ _ rfl K7.out ⟨_,0,none⟩ 1 1 [flv x0] rfl rfl (fun j u h=>cell_one_new _ _ _ j u h) (one_one _ rfl) K3.out K4.out K5.out ?_;intro v' w5 hown1 hgrow1 _ hat;obtain⟨g6,cap6,rfl,_,_⟩:=own_capE hown1 (Nat.succ_pos _);have HO1:=zH hown1;have HG1:=zH hgrow1;clear hown1 hgrow1 hat)
          have HR:Hid (w5.ownsRow wo.heap.size 40 1 (.slice (some ⟨g6,0,none⟩) (N+(k3+1)) cap6) (N+(k3+1)) ((A++A.take (k3+1)).map flv)∧Fr (Eq pb) wo w5∧PrAt pb tb tf tc T { p with pos:=q2,rf:=rf2 } w5):=by
           have hgb:=(K7.out.lt g3 rfl).1
           have f5:Fr (Eq g3) wr w5:=((Fr.refl _ wr).alloc _).grown HG1.out (fun k hk=>by injection hk with hk;exact .inr hk)
           refine⟨?_,hrel.out.2.1.transNew f5 (fun b e=>.inl (by omega)),hrel.out.2.2.fr f5 (by have:=HSM.out;omega) (by have:=HSM.out;omega)⟩
           rw[HA3.out,←List.append_assoc,List.map_append]
           exact HO1.out
          clear HO1 HG1 K7 K5 hrel
          go_wp2_with fail
          go_roundw
          case rel=>exact⟨k3+1,g6,cap6,by omega,by go_num,rfl,HR.out⟩
          case measure=>simp[intOf];omega
         ·have hkm4:k3=m:=by omega
          subst hkm4
          have HR:Hid (N+k3=(closedP k3 ys).length∧N+k3≤30000∧wr.ownsRow wo.heap.size 40 1 (.slice (some ⟨g3,0,none⟩) (N+k3) c3) (N+k3) (((closedP k3 ys).map flp).map flv)∧Fr (Eq pb) wo wr∧PrAt pb tb tf tc T { p with pos:=q2,rf:=rf2 } wr):=by
           show _∧_
           rw[HS2.out,List.map_append,List.map_take,←HA.out]
           refine⟨?_,by omega,hrel.out⟩
           rw[List.length_append,List.length_take,←HNy.out]
           have:=HMN.out
           omega
          clear hrel
          go_wp2_with fail
          go_meet
          exact⟨g3,N+k3,c3,rfl,HR.out⟩
      ·have HS2:Hid (closedP m ys=ys):=by
        show _=_
        rw[HC2.out,hrel.out,List.drop_of_length_le (by rw[List.length_take];omega),List.drop_of_length_le (by rw[List.length_drop,HAl.out];have:=HMN.out;omega)]
        rfl
       have HR:Hid (N=(closedP m ys).length∧N≤30000∧w2.ownsRow wo.heap.size 40 1 (.slice (some ⟨g,0,none⟩) N N) N (((closedP m ys).map flp).map flv)∧Fr (Eq pb) wo w2∧PrAt pb tb tf tc T { p with pos:=q2,rf:=rf2 } w2):=by
        show _∧_
        rw[HS2.out,←HA.out]
        exact⟨HNy.out,by omega,OW0.out,HF2.out,HP2.out⟩
       clear hrel
       go_wp2_with fail
       go_meet
       exact⟨g,N,N,rfl,HR.out⟩
   case rest =>
    obtain⟨g',n',c',rfl,hcut⟩:=hcut
    have hn'b:=hcut.out.2.1
    have hxl:n'=x.length:=by rw[hcut.out.1,HM.out,←HX.out]
    have hxne:0 < n':=by
     rw[hxl]
     refine List.length_pos_iff.2 (HNE2.out x ?_)
     rw[HALL.out];simp
    have hmod:n' % wd d=0:=by
     obtain⟨k1,hw1⟩:=HWR.out
     rw[hcut.out.1,hw1.len,HD.out.wd,←HDD.out]
     exact Nat.mul_mod_left _ _
    have C193:=zH (fun w1=>ac193 d hd3 g' 0 n' c' w1 hmod (by omega))
    have C161:=zH ac161
    have c3:=hcut.out.2.2.2.2.c3
    rw[show ({ p with pos:=q2,rf:=rf2 }:Pr).dm=d from HDD.out.symm] at c3
    have HCT:=hcut
    obtain⟨w5,hw5⟩:∃w5,w5=(((wc.alloc (.cells #[.int .u8 d,.slice (some ⟨g',0,none⟩) n' c'] 119)).alloc (.cells #[.int .u8 d,.slice (some ⟨g',0,none⟩) n' c'] 119)).alloc (.cells #[.int .u8 d,.slice (some ⟨g',0,none⟩) n' c'] 121)).alloc (.cells #[.int .u8 d,.slice (some ⟨g',0,none⟩) n' c'] 121):=⟨_,rfl⟩
    have f5:ZF wc w5:=by rw[hw5];exact ((((Fr.refl _ wc).alloc _).alloc _).alloc _).alloc _
    have b5:w5.heap[wc.heap.size+3]?=some (.cells #[.int .u8 d,.slice (some ⟨g',0,none⟩) n' c'] 121 (0,0)):=by
     rw[hw5]
     exact (al4_new wc _ _ _ _).1
    have HW5:=zH hw5
    have F5:=zH f5
    have B5:=zH b5
    have HMOD:=zH hmod
    have HXL:=zH hxl
    clear hcut hw5 f5 b5 hmod hxl
    go_upto_region 26 with first|(go_at_call 193;refine (C193.out _).mono ?_;rintro e w3 ⟨rfl,rfl⟩)|(go_at_call 161;refine (C161.out _ _ _ _ _ _).mono ?_;rintro e w4 ⟨rfl,rfl⟩)
    rw[←HW5.out]
    have q0:w5.cell? ⟨wc.heap.size+1+1+1,0,none⟩=some (.int .u8 d):=by rw[zC B5.out];rfl
    have q1:w5.cell? ⟨wc.heap.size+1+1+1,1,none⟩=some (.slice (some ⟨g',0,none⟩) n' c'):=by rw[zC B5.out];rfl
    have LN:Hid (LnE d (fun b=>wo.heap.size≤b) w5 [.int .u8 d,.slice (some ⟨g',0,none⟩) n' c'] (x.map flp)):=by
     obtain⟨a1,a2,a3,a4,a5⟩:=HCT.out
     refine⟨g',0,n',c',rfl,by rw[List.length_map,←HXL.out],(own_cells a3).choose_spec.2.2.1,hxne,HMOD.out,a2,(own_cells a3).choose_spec.2.1,fun j u hu=>?_⟩
     rw[Nat.zero_add]
     have h1:=a3.cells (g:=g') rfl j u (by rw[HX.out,HM.out.symm] at hu;exact hu)
     have e:(⟨g',0,none⟩:Addr).add j=⟨g',j,none⟩:=by cases j<;>simp[Addr.add]
     rw[e] at h1
     exact F5.out.cell h1 (fun h=>h)
    have FOO:Hid (Fr (Eq pb) wo w5):=HCT.out.2.2.2.1.trans (F5.out.weak (fun _ h=>h.elim))
    obtain⟨cs,hown,hnx⟩:=rows_next (LnE.kp d) (by rw[HDD.out];exact HOWN.out) (fun b h1 h2=>FOO.out.block b h2 (by omega)) HSM.out rfl LN.out
    rw[List.length_map,HDN.out] at hown hnx
    have OWN:=zH hown
    have NX:=zH hnx
    clear hown hnx
    have K3:Hid (i+1≤maxLen):=by show _≤_;unfold maxLen;omega
    have K4:Hid ((i+1)*32≤140737488355328):=by show _≤_;omega
    have K5:Hid (w.heap.size+1≤(w5.alloc (.cells #[.int .u8 d,.slice (some ⟨g',0,none⟩) n' c'] 121)).heap.size):=by
     have h1:=FOO.out.size
     have h2:=HSM.out
     show _≤(w5.heap.push _).size
     rw[Array.size_push];omega
    have K7:Hid ((w5.alloc (.cells #[.int .u8 d,.slice (some ⟨g',0,none⟩) n' c'] 121)).ownsRow (w.heap.size+1) 121 2 (.slice va i vc) i cs):=OWN.out.alloc _
    have KO:Hid (∀u∈[Value.int .u8 d,.slice (some ⟨g',0,none⟩) n' c'],u.oneCell'=true):=by
     intro u hu
     simp only[List.mem_cons,List.not_mem_nil,or_false] at hu
     rcases hu with rfl|rfl<;>rfl
    go_upto_region 7 with (at_builtin;refine wpList_append_own_at _ rfl _ _ 124 rfl (w.heap.size+1) 121 j0 (.agg #[.int .u8 0,.slice none 0 0]) 2 32 Tryz.underlying124 hj0 jz0 jz1 jz2 rfl (by decide) _ i cs rfl K7.out ⟨_,0,none⟩ 1 1 [.int .u8 d,.slice (some ⟨g',0,none⟩) n' c'] rfl rfl (cell2_new _ _ _ _) KO.out K3.out K4.out K5.out ?_;intro v' w7 hown1 hgrow1 _ hat;obtain⟨g6,cap6,rfl,_,_⟩:=own_capE hown1 (Nat.succ_pos _);have HH:=zH (NX.out _ _ _ hown1 hgrow1 hat);clear hown1 hgrow1 hat)
    have HR:Hid (PgAt pb tb tf tc T p ps mx l' Q' w0 (w.heap.size+1) xs (i+1) (.slice (some ⟨g6,0,none⟩) (i+1) cap6) w7):=by
     have hsq2:=HSQ.out
     rw[h2.out.2.2.2.2.2.1] at hsq2
     have e1:=HQ1.out
     have e2:q≤q2:=h2.out.2.2.2.1
     refine⟨(REL.out.fr.trans FOO.out).transNew HH.out.2 (fun b hb=>.inl (by omega)),q2,rf2,Q1,dn++[x],rest',by omega,h2.out.2.2.2.2.1,(HCT.out.2.2.2.2.keep F5.out).fr HH.out.2 (by omega) (by omega),h2.out.2.2.2.2.2.2.2.1,by rw[HALL.out];simp,by rw[List.length_append,HDN.out];rfl,hsq2,?_⟩
     rw[List.map_append,←HDD.out]
     exact HH.out.1
    clear HH NX OWN K7 K5 LN HCT q0 q1
    go_wp2_with fail
    go_roundw
    case rel=>exact⟨i+1,_,_,by omega,by go_num,rfl,HR.out⟩
    case measure=>simp[intOf];omega
  ·have hin:i=n:=by omega
   subst hin
   obtain⟨q,rf,Q,dn,rest,hq1,hq2,hpr,hrf,hall,hdn,hsq,hown⟩:=hrel.out.st
   have hr0:rest=[]:=by
    have:=HNL.out
    rw[hall] at this
    simp at this
    exact List.eq_nil_of_length_eq_zero (by omega)
   subst hr0
   rw[List.append_nil] at hall
   subst hall
   have hQQ:Q=Q'∧T.drop q=l':=by cases hsq;exact⟨rfl,rfl⟩
   obtain⟨rfl,hlq⟩:=hQQ
   obtain⟨cso,hcso⟩:=hown.own
   obtain⟨g3,c3,hv3,hg3,_⟩:=own_capE hcso (by rw[List.length_map,hdn];exact hn0)
   rw[List.length_map,hdn] at hv3
   injection hv3 with hva _ hvc
   subst hva hvc
   have hdone:=hown.done (LnE.kp p.dm) (by decide)
   have C163:Hid (Calls Tryz.prog 163 #[.slice (some ⟨g3,0,none⟩) i vc] wr (NwPost (LnE d) 2 d (fun b=>w.heap.size+1≤b) (xs.map (·.map flp)) wr)):=new163 hd3 (fun b hb=>by have:=hrel.out.fr.size;show w.heap.size+1≤b;omega) (by rw[HDD.out];exact hdone) hn0 (by omega)
   have HBW:=zH ((hrel.out.fr.block w.heap.size (by omega) (by omega)).trans B0.out)
   have HPR:=zH hpr
   have HLQ:=zH hlq
   have HRF2:=zH hrf
   have HQ12:=zH (⟨hq1,hq2⟩:_∧_)
   have FR:=zH hrel.out.fr
   clear hrel hq1 hq2 hpr hrf hdn hsq hown hlq hcso hdone
   go_upto_region 27 with fail
   go_wp2_with (go_at_call 163;refine C163.out.mono ?_;rintro e w9 ⟨g9,n9,c9,rfl,h9⟩;have HB9:=zH ((h9.out.1.block w.heap.size (zG HBW.out).1 (fun h=>h)).trans HBW.out);have q0:w9.cell? ⟨w.heap.size,0,none⟩=some (.slice none 0 0):=(by rw[zC HB9.out];rfl);have q1:w9.cell? ⟨w.heap.size,1,none⟩=some (.int .u8 0):=(by rw[zC HB9.out];rfl);have qf:∀j,w9.frozen? ⟨w.heap.size,j,none⟩=false:=fun j=>zF HB9.out j)
   refine bodyPost_ret (v:=.tuple #[.agg #[.slice (some ⟨g9,0,none⟩) n9 c9,.int .u8 d],.nilIface]) (by simp[results,Tryz.f195,go_sem,q0,q1]) rfl ?_
   have fS:Fr (Eq w.heap.size) w9 ((w9.setCell ⟨w.heap.size,0,none⟩ (.slice (some ⟨g9,0,none⟩) n9 c9)).setCell ⟨w.heap.size,1,none⟩ (.int .u8 d)):=((Fr.refl _ w9).setR _).setR _
   refine⟨g9,n9,c9,by rw[HDD.out],q,rf,h9.out.2.1,?_,HQ12.out.1,HQ12.out.2,HLQ.out.symm,(HPR.out.keep h9.out.1).fr fS (by omega) (by omega),HRF2.out,?_⟩
   ·rw[←HDD.out]
    exact (RwE.kp (LnE.kp d) (by decide) d).mono (fun b hb _=>by omega) ((RwE.kp (LnE.kp d) (by decide) d).kept (fun b hb hl=>fS.block b hl (by omega)) h9.out.2.2)
   ·exact (((F0.out.weak (fun _ h=>h.elim)).trans FR.out).trans (h9.out.1.weak (fun _ h=>h.elim))).transNew fS (fun b e=>.inl (by omega))
end Go.Proofs.YtnjjgbcmjnfijaaGreatDoor
