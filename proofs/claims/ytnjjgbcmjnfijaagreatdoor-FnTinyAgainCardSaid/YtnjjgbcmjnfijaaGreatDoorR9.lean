/- The package's reader of tiny bytes: several points, lines, polygons. No condition. -/
import Derived.Test.YtnjjgbcmjnfijaaGreatDoorR8
import Derived.Test.YtnjjgbcmjnfijaaGreatDoorR5
import Derived.Test.YtnjjgbcmjnfijaaGreatDoorR6
namespace Go.Proofs.YtnjjgbcmjnfijaaGreatDoor
set_option maxRecDepth 100000
set_option maxHeartbeats 8000000
open Go.RowKit
structure MuAt {α β:Type} (E:(Nat→Prop)→World→List Value→β→Prop) (s tid:Nat) (f:α→β) (R:List Int→List UInt8→α→List Int→List UInt8→Prop) (pb tb tf tc:Nat) (T:List UInt8) (p:Pr) (l':List UInt8) (Q':List Int) (w:World) (B:Nat) (all:List α) (i:Nat) (v:Value) (wr:World):Prop where
 fr:Fr (Eq pb) w wr
 st:∃(q:Nat) (rf:Nat→Int) (Q:List Int) (dn rest:List α),p.pos≤q∧q≤T.length∧PrAt pb tb tf tc T { p with pos:=q,rf:=rf } wr∧RfOk rf Q∧all=dn++rest∧dn.length=i∧SqP R rest.length Q (T.drop q) rest Q' l'∧OwnRows E B tid s wr v (dn.map f)
def IdOk (p:Pr) (is:List Int) (v:Value) (B:Nat) (w:World):Prop:=(p.ix=false→v=p.iv∧is=[])∧(p.ix=true→∃g,B≤g∧v=.slice (some ⟨g,0,none⟩) is.length is.length∧w.heap[g]?=some (.cells (is.map iv).toArray 2 (0,0)))
def MuPost {β:Type} (E:(Nat→Prop)→World→List Value→β→Prop) (s:Nat) (pb tb tf tc:Nat) (T:List UInt8) (p:Pr) (xs:List β) (is:List Int) (Q':List Int) (l':List UInt8) (w:World) (e:Ending) (w':World):Prop :=
 ∃g n c:Nat,e=.returned (.tuple #[.agg #[.slice (some ⟨g,0,none⟩) n c,.int .u8 p.dm],.nilIface])∧∃(q:Nat) (rf:Nat→Int) (v:Value),Hid (n≤c∧RwE E s p.dm (fun b=>w.heap.size≤b) w' [.slice (some ⟨g,0,none⟩) n c,.int .u8 p.dm] xs∧p.pos≤q∧q≤T.length∧l'=T.drop q∧PrAt pb tb tf tc T { p with pos:=q,rf:=rf,iv:=v } w'∧RfOk rf Q'∧IdOk p is v w.heap.size w'∧Fr (Eq pb) w w')
theorem IdOk.keep{p:Pr}{is:List Int}{v:Value}{B:Nat}{R:Nat→Prop}{w w':World}(h:IdOk p is v B w)(f:Fr R w w')(hR:∀b,R b→b < B):IdOk p is v B w':=by
 refine⟨h.1,fun e=>?_⟩
 obtain⟨g,h1,h2,h3⟩:=h.2 e
 exact⟨g,h1,h2,(f.block g (zG h3).1 (fun h=>by have:=hR g h;omega)).trans h3⟩
theorem cell6_new(w:World)(c0 c1 c2 c3 c4 c5:Value)(t:TypeId):∀j u,[c0,c1,c2,c3,c4,c5][j]?=some u→(w.alloc (.cells #[c0,c1,c2,c3,c4,c5] t)).cell? ((⟨w.heap.size,0,none⟩:Addr).add j)=some u:=by
 intro j u hj
 have e:(⟨w.heap.size,0,none⟩:Addr).add j=⟨w.heap.size,j,none⟩:=by cases j<;>simp[Addr.add]
 rw[e,zC (zN w _)]
 match j,hj with
 | 0,hj=>simpa using hj
 | 1,hj=>simpa using hj
 | 2,hj=>simpa using hj
 | 3,hj=>simpa using hj
 | 4,hj=>simpa using hj
 | 5,hj=>simpa using hj
 | j+6,hj=>simp at hj
theorem multi196{pb tb tf tc:Nat}{T:List UInt8}{p:Pr}{w:World}(h:PrAt pb tb tf tc T p w)(htw:tb < w.heap.size){ps Q0 Q':List Int}{l l0 l1 l':List UInt8}{n:Nat}{xs:List (List (Int × Int))}{is:List Int}(ho:ScOk p ps)(hrf:RfOk p.rf Q0)(hl:l=T.drop p.pos)(hn:n≤4096)(hu:UV l n l0)(hi:IdsP p.ix n l0 is l1)(hs:SqP (fun Q l=>RowP ps Q 1 l) n Q0 l1 xs Q' l')(hd:DmOk p ps)(hne:xs≠[])  :
  Calls Tryz.prog 196 #[.pointer (some ⟨pb,0,none⟩)] w (MuPost (PtE p.dm) 6 pb tb tf tc T p (xs.map (·.map flp)) is Q' l' w):=by
 subst hl
 obtain⟨j0,hj0,jz0,jz1,jz2⟩:=info_parts info115
 have hpb:=h.lt
 have hnl:=hs.len
 have hn0:0 < n:=by
  rw[←hnl]
  exact List.length_pos_iff.2 hne
 have hnI:(n:Int)≤4096:=by omega
 have hsf:=st_fl
 obtain⟨w0,hw0⟩:∃w0,w0=w.alloc (.cells #[.slice none 0 0,.int .u8 0] 130):=⟨_,rfl⟩
 have f0:ZF w w0:=by rw[hw0];exact (Fr.refl _ w).alloc _
 have s0:w0.heap.size=w.heap.size+1:=by rw[hw0];show (w.heap.push _).size=_;rw[Array.size_push]
 have b0:w0.heap[w.heap.size]?=some (.cells #[.slice none 0 0,.int .u8 0] 130 (0,0)):=by rw[hw0];exact zN w _
 have C238:=zH (uvar238 (h.keep f0) hu)
 have C242:Hid (∀q1 w1,l0=T.drop q1→PrAt pb tb tf tc T { p with pos:=q1 } w1→tb < w1.heap.size→Calls Tryz.prog 242 #[.pointer (some ⟨pb,0,none⟩),.int .i64 n] w1 (IlPost pb tb tf tc T { p with pos:=q1 } is l1 w1)):=fun q1 w1 e h1 h2=>by
  subst e
  exact ids242 (p:={ p with pos:=q1 }) h1 h2 hn hi
 have HS:=zH hs
 have HNL:=zH hnl
 have HO:=zH ho
 have HRF:=zH hrf
 have HD:=zH hd
 skip
 have HW0:=zH hw0
 have F0:=zH f0
 have B0:=zH b0
 obtain⟨d,hdd⟩:∃d,d=p.dm:=⟨_,rfl⟩
 have hd3:d≤3:=by rw[hdd];exact hd.le
 have HDD:=zH hdd
 clear h hu hs ho hrf hd hne  hi hw0 f0 b0 hnl hdd
 go_enter Tryz.func196,Tryz.ntmps196
 go_upto_region 1 with fail
 rw[←HW0.out]
 go_upto_region 2 with (go_at_call 238;refine C238.out.mono ?_;rintro e w1 ⟨rfl,q1,h1⟩)
 have C242':=zH (C242.out q1 w1 h1.out.2.2.1 h1.out.2.2.2.1 (by have:=h1.out.2.2.2.2.size;omega))
 go_upto_region 5 with (go_at_call 242;refine C242'.out.mono ?_;rintro e w3 ⟨rfl,q3,v3,h3⟩)
 obtain⟨p1,hp1⟩:∃p1:Pr,p1={ p with pos:=q3,iv:=v3 }:=⟨_,rfl⟩
 have HP1:=zH hp1
 have F03:Hid (Fr (Eq pb) w0 w3):=h1.out.2.2.2.2.trans h3.out.2.2.2.2.1
 obtain⟨W3,hW3⟩:∃W3,W3=w3.heap.size:=⟨_,rfl⟩
 have hW3s:w.heap.size+1≤W3:=by have:=F03.out.size;omega
 have HW3:=zH hW3
 clear hW3
 have P1:Hid (MuAt (PtE d) 6 115 (·.map flp) (fun Q l=>RowP ps Q 1 l) pb tb tf tc T p1 l' Q' w3 W3 xs 0 (.slice none 0 0) w3):=by
  refine⟨Fr.refl _ _,q3,p.rf,Q0,[],xs,by rw[hp1];exact Nat.le_refl _,h3.out.2.1,?_,HRF.out,rfl,rfl,?_,OwnRows.nil⟩
  ·rw[hp1];exact h3.out.2.2.2.1
  ·have hsq:=HS.out
   rw[h3.out.2.2.1] at hsq
   rw[HNL.out]
   exact hsq
 have HO1:Hid (ScOk p1 ps):=by show ScOk _ _;rw[hp1];exact⟨HO.out.dims,HO.out.lo,HO.out.hi,HO.out.bd,HO.out.sc⟩
 have HD1:Hid (DmOk p1 ps):=by show DmOk _ _;rw[hp1];exact⟨HD.out.le,HD.out.wd,HD.out.hz,HD.out.hm⟩
 have HDD1:Hid (d=p1.dm):=by show _=_;rw[hp1];exact HDD.out
 clear HO HD hp1
 have HO:=HO1
 have HD:=HD1
 have HDp:=HDD
 clear HO1 HD1 HDD
 have HDD:=HDD1
 clear HDD1
 go_upto_region 9 with fail
 go_loopw [7,8] (fun vv iv wr=>∃(i:Nat) (va:Option Addr) (vc:Nat),i≤n∧iv=.int .i64 (i:Int)∧vv=.slice va i vc∧Hid (MuAt (PtE d) 6 115 (·.map flp) (fun Q l=>RowP ps Q 1 l) pb tb tf tc T p1 l' Q' w3 W3 xs i (.slice va i vc) wr)) (fun _ iv _=>n - (intOf iv).toNat)
 case atStart=>exact⟨0,none,0,Nat.zero_le _,rfl,rfl,P1.out⟩
 case round =>
  obtain⟨i,va,vc,hi,rfl,rfl,hrel⟩:=hrel
  obtain⟨q,rf,Q,dn,rest,hq1,hq2,hpr,hrf,hall,hdn,hsq,hown⟩:=hrel.out.st
  by_cases hlt:i < n
  ·obtain⟨x,rest',hrs⟩:∃x rest',rest=x :: rest':=by
    cases rest with
    | nil =>
     exfalso
     have h3:=HNL.out
     rw[hall] at h3
     simp at h3
     omega
    | cons x rest'=>exact⟨x,rest',rfl⟩
   subst hrs
   obtain⟨Q1,l2,k1,hk,hx1,hsq'⟩:=hsq.split
   have hkr:k1=rest'.length:=by simpa using hk.symm
   subst hkr
   have CK0:=point192 (p:={ p1 with pos:=q,rf:=rf }) hpr (by have:=hrel.out.fr.size;have:=HW3.out;omega) ⟨HO.out.dims,HO.out.lo,HO.out.hi,HO.out.bd,HO.out.sc⟩ hrf hx1 ⟨HD.out.le,HD.out.wd,HD.out.hz,HD.out.hm⟩
   unfold PtPost at CK0
   rw[show ({ p1 with pos:=q,rf:=rf }:Pr).dm=d from HDD.out.symm] at CK0
   skip
   have CK:=zH CK0
   have HALL:=zH hall
   have HDN:=zH hdn
   have HSQ:=zH hsq'
   have HOWN:=zH hown
   have HQ1:=zH hq1
   have HSM:Hid (W3≤wr.heap.size):=by show _≤_;have:=hrel.out.fr.size;have:=HW3.out;omega
   have FREL:=zH hrel.out.fr
   clear CK0 hrel hq1 hq2 hpr hrf hall hdn hsq hown hx1 hsq' hk
   go_upto_region 12 with (go_at_call 192;refine CK.out.mono ?_;rintro e w2 ⟨x4,y4,z4,m4,rfl,q2,rf2,h2⟩)
   obtain⟨w5,hw5⟩:∃w5,w5=w2.alloc (.cells #[.float .f64 x4,.float .f64 y4,.float .f64 z4,.float .f64 m4,.int .u8 d,.bool true] 115):=⟨_,rfl⟩
   rw[←hw5]
   have F5:Hid (ZF w2 w5):=by show Fr _ _ _;rw[hw5];exact (Fr.refl _ w2).alloc _
   have B5:Hid (w5.heap[w2.heap.size]?=some (.cells #[.float .f64 x4,.float .f64 y4,.float .f64 z4,.float .f64 m4,.int .u8 d,.bool true] 115 (0,0))):=by show _=_;rw[hw5];exact zN w2 _
   clear hw5
   have u0:w5.cell? ⟨w2.heap.size,0,none⟩=some (.float .f64 x4):=by rw[zC B5.out];rfl
   have u1:w5.cell? ⟨w2.heap.size,1,none⟩=some (.float .f64 y4):=by rw[zC B5.out];rfl
   have u2:w5.cell? ⟨w2.heap.size,2,none⟩=some (.float .f64 z4):=by rw[zC B5.out];rfl
   have u3:w5.cell? ⟨w2.heap.size,3,none⟩=some (.float .f64 m4):=by rw[zC B5.out];rfl
   have u4:w5.cell? ⟨w2.heap.size,4,none⟩=some (.int .u8 d):=by rw[zC B5.out];rfl
   have u5:w5.cell? ⟨w2.heap.size,5,none⟩=some (.bool true):=by rw[zC B5.out];rfl
   have FOO:Hid (Fr (Eq pb) wr w5):=(h2.out.2.2.2.2.2.2).trans (F5.out.weak (fun _ h=>h.elim))
   have LN:Hid ((PtE d) (fun b=>wr.heap.size≤b) w5 [.float .f64 x4,.float .f64 y4,.float .f64 z4,.float .f64 m4,.int .u8 d,.bool true] (((·.map flp):List (Int × Int)→_) x)):=by
     show (PtE d) _ _ _ _
     exact⟨x4,y4,z4,m4,rfl,h2.out.1⟩
   obtain⟨cs,hown,hnx⟩:=rows_next (PtE.kp d) HOWN.out (fun b h1 h2=>FOO.out.block b h2 (by omega)) HSM.out rfl LN.out
   rw[List.length_map,HDN.out] at hown hnx
   have OWN:=zH hown
   have NX:=zH hnx
   clear hown hnx
   have K3:Hid (i+1≤maxLen):=by show _≤_;unfold maxLen;omega
   have K4:Hid ((i+1)*48≤140737488355328):=by show _≤_;omega
   have K5:Hid (W3≤(w5.alloc (.cells #[.float .f64 x4,.float .f64 y4,.float .f64 z4,.float .f64 m4,.int .u8 d,.bool true] 115)).heap.size):=by
    have h1:=FOO.out.size
    have h2:=HSM.out
    show _≤(w5.heap.push _).size
    rw[Array.size_push];omega
   have K7:Hid ((w5.alloc (.cells #[.float .f64 x4,.float .f64 y4,.float .f64 z4,.float .f64 m4,.int .u8 d,.bool true] 115)).ownsRow W3 115 6 (.slice va i vc) i cs):=OWN.out.alloc _
   have KO:Hid (∀u∈[Value.float .f64 x4,.float .f64 y4,.float .f64 z4,.float .f64 m4,.int .u8 d,.bool true],u.oneCell'=true):=by
    intro u hu
    simp only[List.mem_cons,List.not_mem_nil,or_false] at hu
    rcases hu with rfl|rfl|rfl|rfl|rfl|rfl<;>rfl
   go_upto_region 10 with (at_builtin;refine wpList_append_own_at _ rfl _ _ 57 rfl W3 115 j0 (.agg #[.float .f64 0,.float .f64 0,.float .f64 0,.float .f64 0,.int .u8 0,.bool false]) 6 48 Tryz.underlying57 hj0 jz0 jz1 jz2 rfl (by decide) _ i cs rfl K7.out ⟨_,0,none⟩ 1 1 [.float .f64 x4,.float .f64 y4,.float .f64 z4,.float .f64 m4,.int .u8 d,.bool true] rfl rfl (cell6_new _ _ _ _ _ _ _ _) KO.out K3.out K4.out K5.out ?_;intro v' w7 hown1 hgrow1 _ hat;obtain⟨g6,cap6,rfl,_,_⟩:=own_capE hown1 (Nat.succ_pos _);have HH:=zH (NX.out _ _ _ hown1 hgrow1 hat);clear hown1 hgrow1 hat)
   have HPRX:Hid (PrAt pb tb tf tc T { p1 with pos:=q2,rf:=rf2 } w2):=by
    have h9:=h2.out.2.2.2.2.1
    rw[HDD.out] at h9
    exact h9
   have HR:Hid (MuAt (PtE d) 6 115 (·.map flp) (fun Q l=>RowP ps Q 1 l) pb tb tf tc T p1 l' Q' w3 W3 xs (i+1) (.slice (some ⟨g6,0,none⟩) (i+1) cap6) w7):=by
    have hsq2:=HSQ.out
    rw[h2.out.2.2.2.1] at hsq2
    have e1:=HQ1.out
    have e2:q≤q2:=h2.out.2.1
    refine⟨(FREL.out.trans FOO.out).transNew HH.out.2 (fun b hb=>.inl (by have:=HW3.out;omega)),q2,rf2,Q1,dn++[x],rest',by omega,h2.out.2.2.1,(HPRX.out.keep F5.out).fr HH.out.2 (by omega) (by omega),h2.out.2.2.2.2.2.1,by rw[HALL.out];simp,by rw[List.length_append,HDN.out];rfl,hsq2,?_⟩
    rw[List.map_append]
    exact HH.out.1
   clear HH NX OWN K7 K5 LN u0 u1 u2 u3 u4 u5
   go_wp2_with fail
   go_roundw
   case rel=>exact⟨i+1,_,_,by omega,by go_num,rfl,HR.out⟩
   case measure=>simp[intOf];omega
  ·have hin:i=n:=by omega
   subst hin
   have hr0:rest=[]:=by
    have:=HNL.out
    rw[hall] at this
    simp at this
    exact List.eq_nil_of_length_eq_zero (by omega)
   subst hr0
   rw[List.append_nil] at hall
   subst hall
   have hQQ:Q=Q'∧T.drop q=l':=by cases hsq;exact⟨rfl,rfl⟩
   obtain⟨rfl,hlq⟩:=hQQ
   obtain⟨cso,hcso⟩:=hown.own
   obtain⟨g3,c3,hv3,hg3,_⟩:=own_capE hcso (by rw[List.length_map,hdn];exact hn0)
   rw[List.length_map,hdn] at hv3
   injection hv3 with hva _ hvc
   subst hva hvc
   have hdone:=hown.done (PtE.kp d) (by decide)
   rw[HDD.out] at hdone
   have F3R:=zH hrel.out.fr
   have FR0:=zH (F03.out.trans hrel.out.fr)
   have CN:Hid (Calls Tryz.prog 165 #[.slice (some ⟨g3,0,none⟩) i vc] wr (NwPost (PtE d) 6 d (fun b=>wr.heap.size≤b) (xs.map (·.map flp)) wr)):=new165 hd3 (by rw[HDD.out];exact hdone)  (by rw[List.length_map,hdn]) hn0 (by omega)
   have HBW:=zH ((FR0.out.block w.heap.size (by omega) (by omega)).trans B0.out)
   have HPR:=zH hpr
   have HLQ:=zH hlq
   have HRF2:=zH hrf
   have HQ12:=zH (⟨hq1,hq2⟩:_∧_)
   clear hrel hq1 hq2 hpr hrf hdn hsq hown hlq hcso hdone
   go_upto_region 15 with fail
   go_wp2_with (go_at_call 165;refine CN.out.mono ?_;rintro e w9 ⟨g9,n9,c9,rfl,h9⟩;have HB9:=zH ((h9.out.1.block w.heap.size (zG HBW.out).1 (fun h=>h)).trans HBW.out);have z0:w9.cell? ⟨w.heap.size,0,none⟩=some (.slice none 0 0):=(by rw[zC HB9.out];rfl);have z1:w9.cell? ⟨w.heap.size,1,none⟩=some (.int .u8 0):=(by rw[zC HB9.out];rfl);have zf:∀j,w9.frozen? ⟨w.heap.size,j,none⟩=false:=fun j=>zF HB9.out j)
   refine bodyPost_ret (v:=.tuple #[.agg #[.slice (some ⟨g9,0,none⟩) n9 c9,.int .u8 d],.nilIface]) (by simp[results,Tryz.f196,go_sem,z0,z1]) rfl ?_
   have fS:Fr (Eq w.heap.size) w9 ((w9.setCell ⟨w.heap.size,0,none⟩ (.slice (some ⟨g9,0,none⟩) n9 c9)).setCell ⟨w.heap.size,1,none⟩ (.int .u8 d)):=((Fr.refl _ w9).setR _).setR _
   have hsr:=FR0.out.size
   refine⟨g9,n9,c9,by rw[HDp.out],q,rf,v3,h9.out.2.1,?_,?_,HQ12.out.2,HLQ.out.symm,?_,HRF2.out,?_,?_⟩
   ·rw[←HDp.out]
    exact (RwE.kp (PtE.kp d) (by decide) d).mono (fun b hb _=>by omega) ((RwE.kp (PtE.kp d) (by decide) d).kept (fun b hb hl=>fS.block b hl (by omega)) h9.out.2.2)
   ·have e1:=HQ12.out.1
    rw[HP1.out] at e1
    have e2:q1≤q3:=h3.out.1
    have e3:p.pos < q1:=h1.out.1
    have e4:q3≤q:=e1
    omega
   ·have e1:=(HPR.out.keep h9.out.1).fr fS (by omega) (by omega)
    rw[HP1.out] at e1
    exact e1
   ·refine⟨fun e=>h3.out.2.2.2.2.2.1 e,fun e=>?_⟩
    obtain⟨gi,g1,g2,g3⟩:=h3.out.2.2.2.2.2.2 e
    have gl:=(zG g3).1
    have gs:=h1.out.2.2.2.2.size
    exact⟨gi,by omega,g2,(fS.block gi (by have:=h9.out.1.size;have:=F3R.out.size;omega) (by omega)).trans ((h9.out.1.block gi (by have:=F3R.out.size;omega) (fun h=>h)).trans ((F3R.out.block gi gl (by omega)).trans g3))⟩
   ·exact (((F0.out.weak (fun _ h=>h.elim)).trans FR0.out).trans (h9.out.1.weak (fun _ h=>h.elim))).transNew fS (fun b e=>.inl (by omega))
theorem multi197{pb tb tf tc:Nat}{T:List UInt8}{p:Pr}{w:World}(h:PrAt pb tb tf tc T p w)(htw:tb < w.heap.size){mx:Nat}(hmx:mx≤5000){ps Q0 Q':List Int}{l l0 l1 l':List UInt8}{n:Nat}{xs:List (List (Int × Int))}{is:List Int}(ho:ScOk p ps)(hrf:RfOk p.rf Q0)(hl:l=T.drop p.pos)(hn:n≤4096)(hu:UV l n l0)(hi:IdsP p.ix n l0 is l1)(hs:SqP (LineP mx ps) n Q0 l1 xs Q' l')(hd:DmOk p ps)(hne:xs≠[])(hne2:∀x∈xs,x≠[]):
  Calls Tryz.prog 197 #[.pointer (some ⟨pb,0,none⟩)] w (MuPost (LnE p.dm) 2 pb tb tf tc T p (xs.map (·.map flp)) is Q' l' w):=by
 subst hl
 obtain⟨j0,hj0,jz0,jz1,jz2⟩:=info_parts info121
 have hpb:=h.lt
 have hnl:=hs.len
 have hn0:0 < n:=by
  rw[←hnl]
  exact List.length_pos_iff.2 hne
 have hnI:(n:Int)≤4096:=by omega
 have hsf:=st_fl
 obtain⟨w0,hw0⟩:∃w0,w0=w.alloc (.cells #[.slice none 0 0,.int .u8 0] 134):=⟨_,rfl⟩
 have f0:ZF w w0:=by rw[hw0];exact (Fr.refl _ w).alloc _
 have s0:w0.heap.size=w.heap.size+1:=by rw[hw0];show (w.heap.push _).size=_;rw[Array.size_push]
 have b0:w0.heap[w.heap.size]?=some (.cells #[.slice none 0 0,.int .u8 0] 134 (0,0)):=by rw[hw0];exact zN w _
 have C238:=zH (uvar238 (h.keep f0) hu)
 have C242:Hid (∀q1 w1,l0=T.drop q1→PrAt pb tb tf tc T { p with pos:=q1 } w1→tb < w1.heap.size→Calls Tryz.prog 242 #[.pointer (some ⟨pb,0,none⟩),.int .i64 n] w1 (IlPost pb tb tf tc T { p with pos:=q1 } is l1 w1)):=fun q1 w1 e h1 h2=>by
  subst e
  exact ids242 (p:={ p with pos:=q1 }) h1 h2 hn hi
 have HS:=zH hs
 have HNL:=zH hnl
 have HO:=zH ho
 have HRF:=zH hrf
 have HD:=zH hd
 have HNE:=zH hne2
 have HW0:=zH hw0
 have F0:=zH f0
 have B0:=zH b0
 obtain⟨d,hdd⟩:∃d,d=p.dm:=⟨_,rfl⟩
 have hd3:d≤3:=by rw[hdd];exact hd.le
 have HDD:=zH hdd
 clear h hu hs ho hrf hd hne hne2 hi hw0 f0 b0 hnl hdd
 go_enter Tryz.func197,Tryz.ntmps197
 go_upto_region 1 with fail
 rw[←HW0.out]
 go_upto_region 2 with (go_at_call 238;refine C238.out.mono ?_;rintro e w1 ⟨rfl,q1,h1⟩)
 have C242':=zH (C242.out q1 w1 h1.out.2.2.1 h1.out.2.2.2.1 (by have:=h1.out.2.2.2.2.size;omega))
 go_upto_region 5 with (go_at_call 242;refine C242'.out.mono ?_;rintro e w3 ⟨rfl,q3,v3,h3⟩)
 obtain⟨p1,hp1⟩:∃p1:Pr,p1={ p with pos:=q3,iv:=v3 }:=⟨_,rfl⟩
 have HP1:=zH hp1
 have F03:Hid (Fr (Eq pb) w0 w3):=h1.out.2.2.2.2.trans h3.out.2.2.2.2.1
 obtain⟨W3,hW3⟩:∃W3,W3=w3.heap.size:=⟨_,rfl⟩
 have hW3s:w.heap.size+1≤W3:=by have:=F03.out.size;omega
 have HW3:=zH hW3
 clear hW3
 have P1:Hid (MuAt (LnE d) 2 121 (·.map flp) (LineP mx ps) pb tb tf tc T p1 l' Q' w3 W3 xs 0 (.slice none 0 0) w3):=by
  refine⟨Fr.refl _ _,q3,p.rf,Q0,[],xs,by rw[hp1];exact Nat.le_refl _,h3.out.2.1,?_,HRF.out,rfl,rfl,?_,OwnRows.nil⟩
  ·rw[hp1];exact h3.out.2.2.2.1
  ·have hsq:=HS.out
   rw[h3.out.2.2.1] at hsq
   rw[HNL.out]
   exact hsq
 have HO1:Hid (ScOk p1 ps):=by show ScOk _ _;rw[hp1];exact⟨HO.out.dims,HO.out.lo,HO.out.hi,HO.out.bd,HO.out.sc⟩
 have HD1:Hid (DmOk p1 ps):=by show DmOk _ _;rw[hp1];exact⟨HD.out.le,HD.out.wd,HD.out.hz,HD.out.hm⟩
 have HDD1:Hid (d=p1.dm):=by show _=_;rw[hp1];exact HDD.out
 clear HO HD hp1
 have HO:=HO1
 have HD:=HD1
 have HDp:=HDD
 clear HO1 HD1 HDD
 have HDD:=HDD1
 clear HDD1
 go_upto_region 9 with fail
 go_loopw [7,8] (fun vv iv wr=>∃(i:Nat) (va:Option Addr) (vc:Nat),i≤n∧iv=.int .i64 (i:Int)∧vv=.slice va i vc∧Hid (MuAt (LnE d) 2 121 (·.map flp) (LineP mx ps) pb tb tf tc T p1 l' Q' w3 W3 xs i (.slice va i vc) wr)) (fun _ iv _=>n - (intOf iv).toNat)
 case atStart=>exact⟨0,none,0,Nat.zero_le _,rfl,rfl,P1.out⟩
 case round =>
  obtain⟨i,va,vc,hi,rfl,rfl,hrel⟩:=hrel
  obtain⟨q,rf,Q,dn,rest,hq1,hq2,hpr,hrf,hall,hdn,hsq,hown⟩:=hrel.out.st
  by_cases hlt:i < n
  ·obtain⟨x,rest',hrs⟩:∃x rest',rest=x :: rest':=by
    cases rest with
    | nil =>
     exfalso
     have h3:=HNL.out
     rw[hall] at h3
     simp at h3
     omega
    | cons x rest'=>exact⟨x,rest',rfl⟩
   subst hrs
   obtain⟨Q1,l2,k1,hk,hx1,hsq'⟩:=hsq.split
   have hkr:k1=rest'.length:=by simpa using hk.symm
   subst hkr
   have CK0:=line194 (p:={ p1 with pos:=q,rf:=rf }) hpr (by have:=hrel.out.fr.size;have:=HW3.out;omega) hmx ⟨HO.out.dims,HO.out.lo,HO.out.hi,HO.out.bd,HO.out.sc⟩ hrf hx1 HD.out.le HD.out.wd
   unfold LsPost at CK0
   rw[show ({ p1 with pos:=q,rf:=rf }:Pr).dm=d from HDD.out.symm] at CK0
   have HXN:Hid (∃k5,k5≤5000∧x.length=k5*ps.length):=by
    obtain⟨k5,l9,h51,_,hrow5⟩:=hx1
    exact⟨k5,by omega,hrow5.len (by have:=HO.out.lo;omega)⟩
   obtain⟨n2,hn2⟩:∃n2,n2=x.length:=⟨_,rfl⟩
   rw[←hn2] at CK0
   have HN2:=zH hn2
   clear hn2
   have CK:=zH CK0
   have HALL:=zH hall
   have HDN:=zH hdn
   have HSQ:=zH hsq'
   have HOWN:=zH hown
   have HQ1:=zH hq1
   have HSM:Hid (W3≤wr.heap.size):=by show _≤_;have:=hrel.out.fr.size;have:=HW3.out;omega
   have FREL:=zH hrel.out.fr
   clear CK0 hrel hq1 hq2 hpr hrf hall hdn hsq hown hx1 hsq' hk
   go_upto_region 12 with (go_at_call 194;refine CK.out.mono ?_;rintro e w2 ⟨g2,rfl,q2,rf2,h2⟩)
   obtain⟨w5,hw5⟩:∃w5,w5=w2.alloc (.cells #[.int .u8 d,.slice (some ⟨g2,0,none⟩) n2 n2] 121):=⟨_,rfl⟩
   rw[←hw5]
   have F5:Hid (ZF w2 w5):=by show Fr _ _ _;rw[hw5];exact (Fr.refl _ w2).alloc _
   have B5:Hid (w5.heap[w2.heap.size]?=some (.cells #[.int .u8 d,.slice (some ⟨g2,0,none⟩) n2 n2] 121 (0,0))):=by show _=_;rw[hw5];exact zN w2 _
   clear hw5
   have u0:w5.cell? ⟨w2.heap.size,0,none⟩=some (.int .u8 d):=by rw[zC B5.out];rfl
   have u1:w5.cell? ⟨w2.heap.size,1,none⟩=some (.slice (some ⟨g2,0,none⟩) n2 n2):=by rw[zC B5.out];rfl
   have FOO:Hid (Fr (Eq pb) wr w5):=(h2.out.2.2.2.2.2.2.1).trans (F5.out.weak (fun _ h=>h.elim))
   have LN:Hid ((LnE d) (fun b=>wr.heap.size≤b) w5 [.int .u8 d,.slice (some ⟨g2,0,none⟩) n2 n2] (((·.map flp):List (Int × Int)→_) x)):=by
     show (LnE d) _ _ _ _
     refine⟨g2,0,n2,n2,rfl,by rw[List.length_map,HN2.out],Nat.le_refl _,by rw[HN2.out];exact List.length_pos_iff.2 (HNE.out x (by rw[HALL.out];simp)),by obtain⟨k5,hk5⟩:=HXN.out;rw[HN2.out,hk5.2,HD.out.wd,←HDD.out];exact Nat.mul_mod_left _ _,by obtain⟨k5,hk5⟩:=HXN.out;rw[HN2.out,hk5.2];have:=Nat.mul_le_mul hk5.1 HO.out.hi;omega,h2.out.1,fun j u hu=>?_⟩
     rw[Nat.zero_add]
     have h7:=h2.out.2.2.2.2.2.2.2
     refine F5.out.cell ?_ (fun h=>h)
     rw[zC h7]
     simpa using hu
   obtain⟨cs,hown,hnx⟩:=rows_next (LnE.kp d) HOWN.out (fun b h1 h2=>FOO.out.block b h2 (by omega)) HSM.out rfl LN.out
   rw[List.length_map,HDN.out] at hown hnx
   have OWN:=zH hown
   have NX:=zH hnx
   clear hown hnx
   have K3:Hid (i+1≤maxLen):=by show _≤_;unfold maxLen;omega
   have K4:Hid ((i+1)*32≤140737488355328):=by show _≤_;omega
   have K5:Hid (W3≤(w5.alloc (.cells #[.int .u8 d,.slice (some ⟨g2,0,none⟩) n2 n2] 121)).heap.size):=by
    have h1:=FOO.out.size
    have h2:=HSM.out
    show _≤(w5.heap.push _).size
    rw[Array.size_push];omega
   have K7:Hid ((w5.alloc (.cells #[.int .u8 d,.slice (some ⟨g2,0,none⟩) n2 n2] 121)).ownsRow W3 121 2 (.slice va i vc) i cs):=OWN.out.alloc _
   have KO:Hid (∀u∈[Value.int .u8 d,.slice (some ⟨g2,0,none⟩) n2 n2],u.oneCell'=true):=by
    intro u hu
    simp only[List.mem_cons,List.not_mem_nil,or_false] at hu
    rcases hu with rfl|rfl<;>rfl
   go_upto_region 10 with (at_builtin;refine wpList_append_own_at _ rfl _ _ 124 rfl W3 121 j0 (.agg #[.int .u8 0,.slice none 0 0]) 2 32 Tryz.underlying124 hj0 jz0 jz1 jz2 rfl (by decide) _ i cs rfl K7.out ⟨_,0,none⟩ 1 1 [.int .u8 d,.slice (some ⟨g2,0,none⟩) n2 n2] rfl rfl (cell2_new _ _ _ _) KO.out K3.out K4.out K5.out ?_;intro v' w7 hown1 hgrow1 _ hat;obtain⟨g6,cap6,rfl,_,_⟩:=own_capE hown1 (Nat.succ_pos _);have HH:=zH (NX.out _ _ _ hown1 hgrow1 hat);clear hown1 hgrow1 hat)
   have HPRX:Hid (PrAt pb tb tf tc T { p1 with pos:=q2,rf:=rf2 } w2):=by
    have h9:=h2.out.2.2.2.2.1
    rw[HDD.out] at h9
    exact h9
   have HR:Hid (MuAt (LnE d) 2 121 (·.map flp) (LineP mx ps) pb tb tf tc T p1 l' Q' w3 W3 xs (i+1) (.slice (some ⟨g6,0,none⟩) (i+1) cap6) w7):=by
    have hsq2:=HSQ.out
    rw[h2.out.2.2.2.1] at hsq2
    have e1:=HQ1.out
    have e2:q≤q2:=h2.out.2.1
    refine⟨(FREL.out.trans FOO.out).transNew HH.out.2 (fun b hb=>.inl (by have:=HW3.out;omega)),q2,rf2,Q1,dn++[x],rest',by omega,h2.out.2.2.1,(HPRX.out.keep F5.out).fr HH.out.2 (by omega) (by omega),h2.out.2.2.2.2.2.1,by rw[HALL.out];simp,by rw[List.length_append,HDN.out];rfl,hsq2,?_⟩
    rw[List.map_append]
    exact HH.out.1
   clear HH NX OWN K7 K5 LN u0 u1
   go_wp2_with fail
   go_roundw
   case rel=>exact⟨i+1,_,_,by omega,by go_num,rfl,HR.out⟩
   case measure=>simp[intOf];omega
  ·have hin:i=n:=by omega
   subst hin
   have hr0:rest=[]:=by
    have:=HNL.out
    rw[hall] at this
    simp at this
    exact List.eq_nil_of_length_eq_zero (by omega)
   subst hr0
   rw[List.append_nil] at hall
   subst hall
   have hQQ:Q=Q'∧T.drop q=l':=by cases hsq;exact⟨rfl,rfl⟩
   obtain⟨rfl,hlq⟩:=hQQ
   obtain⟨cso,hcso⟩:=hown.own
   obtain⟨g3,c3,hv3,hg3,_⟩:=own_capE hcso (by rw[List.length_map,hdn];exact hn0)
   rw[List.length_map,hdn] at hv3
   injection hv3 with hva _ hvc
   subst hva hvc
   have hdone:=hown.done (LnE.kp d) (by decide)
   rw[HDD.out] at hdone
   have F3R:=zH hrel.out.fr
   have FR0:=zH (F03.out.trans hrel.out.fr)
   have CN:Hid (Calls Tryz.prog 167 #[.slice (some ⟨g3,0,none⟩) i vc] wr (NwPost (LnE d) 2 d (fun b=>W3≤b) (xs.map (·.map flp)) wr)):=new167 hd3 (P:=fun b=>W3≤b) (fun b hb=>by have:=F3R.out.size;have:=HW3.out;show W3≤b;omega) (by rw[HDD.out];exact hdone) hn0 (by omega)
   have HBW:=zH ((FR0.out.block w.heap.size (by omega) (by omega)).trans B0.out)
   have HPR:=zH hpr
   have HLQ:=zH hlq
   have HRF2:=zH hrf
   have HQ12:=zH (⟨hq1,hq2⟩:_∧_)
   clear hrel hq1 hq2 hpr hrf hdn hsq hown hlq hcso hdone
   go_upto_region 15 with fail
   go_wp2_with (go_at_call 167;refine CN.out.mono ?_;rintro e w9 ⟨g9,n9,c9,rfl,h9⟩;have HB9:=zH ((h9.out.1.block w.heap.size (zG HBW.out).1 (fun h=>h)).trans HBW.out);have z0:w9.cell? ⟨w.heap.size,0,none⟩=some (.slice none 0 0):=(by rw[zC HB9.out];rfl);have z1:w9.cell? ⟨w.heap.size,1,none⟩=some (.int .u8 0):=(by rw[zC HB9.out];rfl);have zf:∀j,w9.frozen? ⟨w.heap.size,j,none⟩=false:=fun j=>zF HB9.out j)
   refine bodyPost_ret (v:=.tuple #[.agg #[.slice (some ⟨g9,0,none⟩) n9 c9,.int .u8 d],.nilIface]) (by simp[results,Tryz.f197,go_sem,z0,z1]) rfl ?_
   have fS:Fr (Eq w.heap.size) w9 ((w9.setCell ⟨w.heap.size,0,none⟩ (.slice (some ⟨g9,0,none⟩) n9 c9)).setCell ⟨w.heap.size,1,none⟩ (.int .u8 d)):=((Fr.refl _ w9).setR _).setR _
   have hsr:=FR0.out.size
   refine⟨g9,n9,c9,by rw[HDp.out],q,rf,v3,h9.out.2.1,?_,?_,HQ12.out.2,HLQ.out.symm,?_,HRF2.out,?_,?_⟩
   ·rw[←HDp.out]
    exact (RwE.kp (LnE.kp d) (by decide) d).mono (fun b hb _=>by omega) ((RwE.kp (LnE.kp d) (by decide) d).kept (fun b hb hl=>fS.block b hl (by omega)) h9.out.2.2)
   ·have e1:=HQ12.out.1
    rw[HP1.out] at e1
    have e2:q1≤q3:=h3.out.1
    have e3:p.pos < q1:=h1.out.1
    have e4:q3≤q:=e1
    omega
   ·have e1:=(HPR.out.keep h9.out.1).fr fS (by omega) (by omega)
    rw[HP1.out] at e1
    exact e1
   ·refine⟨fun e=>h3.out.2.2.2.2.2.1 e,fun e=>?_⟩
    obtain⟨gi,g1,g2,g3⟩:=h3.out.2.2.2.2.2.2 e
    have gl:=(zG g3).1
    have gs:=h1.out.2.2.2.2.size
    exact⟨gi,by omega,g2,(fS.block gi (by have:=h9.out.1.size;have:=F3R.out.size;omega) (by omega)).trans ((h9.out.1.block gi (by have:=F3R.out.size;omega) (fun h=>h)).trans ((F3R.out.block gi gl (by omega)).trans g3))⟩
   ·exact (((F0.out.weak (fun _ h=>h.elim)).trans FR0.out).trans (h9.out.1.weak (fun _ h=>h.elim))).transNew fS (fun b e=>.inl (by omega))
theorem multi198{pb tb tf tc:Nat}{T:List UInt8}{p:Pr}{w:World}(h:PrAt pb tb tf tc T p w)(htw:tb < w.heap.size){mx:Nat}(hmx:mx≤5000){ps Q0 Q':List Int}{l l0 l1 l':List UInt8}{n:Nat}{xs:List (List (List (Int × Int)))}{is:List Int}(ho:ScOk p ps)(hrf:RfOk p.rf Q0)(hl:l=T.drop p.pos)(hn:n≤4096)(hu:UV l n l0)(hi:IdsP p.ix n l0 is l1)(hs:SqP (PolyP mx ps) n Q0 l1 xs Q' l')(hd:DmOk p ps)(hne:xs≠[])(hne2:∀x∈xs,x≠[]∧∀y∈x,y≠[]):
  Calls Tryz.prog 198 #[.pointer (some ⟨pb,0,none⟩)] w (MuPost (RwE (LnE p.dm) 2 p.dm) 2 pb tb tf tc T p (xs.map (·.map (·.map flp))) is Q' l' w):=by
 subst hl
 obtain⟨j0,hj0,jz0,jz1,jz2⟩:=info_parts info126
 have hpb:=h.lt
 have hnl:=hs.len
 have hn0:0 < n:=by
  rw[←hnl]
  exact List.length_pos_iff.2 hne
 have hnI:(n:Int)≤4096:=by omega
 have hsf:=st_fl
 obtain⟨w0,hw0⟩:∃w0,w0=w.alloc (.cells #[.slice none 0 0,.int .u8 0] 139):=⟨_,rfl⟩
 have f0:ZF w w0:=by rw[hw0];exact (Fr.refl _ w).alloc _
 have s0:w0.heap.size=w.heap.size+1:=by rw[hw0];show (w.heap.push _).size=_;rw[Array.size_push]
 have b0:w0.heap[w.heap.size]?=some (.cells #[.slice none 0 0,.int .u8 0] 139 (0,0)):=by rw[hw0];exact zN w _
 have C238:=zH (uvar238 (h.keep f0) hu)
 have C242:Hid (∀q1 w1,l0=T.drop q1→PrAt pb tb tf tc T { p with pos:=q1 } w1→tb < w1.heap.size→Calls Tryz.prog 242 #[.pointer (some ⟨pb,0,none⟩),.int .i64 n] w1 (IlPost pb tb tf tc T { p with pos:=q1 } is l1 w1)):=fun q1 w1 e h1 h2=>by
  subst e
  exact ids242 (p:={ p with pos:=q1 }) h1 h2 hn hi
 have HS:=zH hs
 have HNL:=zH hnl
 have HO:=zH ho
 have HRF:=zH hrf
 have HD:=zH hd
 have HNE:=zH hne2
 have HW0:=zH hw0
 have F0:=zH f0
 have B0:=zH b0
 obtain⟨d,hdd⟩:∃d,d=p.dm:=⟨_,rfl⟩
 have hd3:d≤3:=by rw[hdd];exact hd.le
 have HDD:=zH hdd
 clear h hu hs ho hrf hd hne hne2 hi hw0 f0 b0 hnl hdd
 go_enter Tryz.func198,Tryz.ntmps198
 go_upto_region 1 with fail
 rw[←HW0.out]
 go_upto_region 2 with (go_at_call 238;refine C238.out.mono ?_;rintro e w1 ⟨rfl,q1,h1⟩)
 have C242':=zH (C242.out q1 w1 h1.out.2.2.1 h1.out.2.2.2.1 (by have:=h1.out.2.2.2.2.size;omega))
 go_upto_region 5 with (go_at_call 242;refine C242'.out.mono ?_;rintro e w3 ⟨rfl,q3,v3,h3⟩)
 obtain⟨p1,hp1⟩:∃p1:Pr,p1={ p with pos:=q3,iv:=v3 }:=⟨_,rfl⟩
 have HP1:=zH hp1
 have F03:Hid (Fr (Eq pb) w0 w3):=h1.out.2.2.2.2.trans h3.out.2.2.2.2.1
 obtain⟨W3,hW3⟩:∃W3,W3=w3.heap.size:=⟨_,rfl⟩
 have hW3s:w.heap.size+1≤W3:=by have:=F03.out.size;omega
 have HW3:=zH hW3
 clear hW3
 have P1:Hid (MuAt (RwE (LnE d) 2 d) 2 126 (·.map (·.map flp)) (PolyP mx ps) pb tb tf tc T p1 l' Q' w3 W3 xs 0 (.slice none 0 0) w3):=by
  refine⟨Fr.refl _ _,q3,p.rf,Q0,[],xs,by rw[hp1];exact Nat.le_refl _,h3.out.2.1,?_,HRF.out,rfl,rfl,?_,OwnRows.nil⟩
  ·rw[hp1];exact h3.out.2.2.2.1
  ·have hsq:=HS.out
   rw[h3.out.2.2.1] at hsq
   rw[HNL.out]
   exact hsq
 have HO1:Hid (ScOk p1 ps):=by show ScOk _ _;rw[hp1];exact⟨HO.out.dims,HO.out.lo,HO.out.hi,HO.out.bd,HO.out.sc⟩
 have HD1:Hid (DmOk p1 ps):=by show DmOk _ _;rw[hp1];exact⟨HD.out.le,HD.out.wd,HD.out.hz,HD.out.hm⟩
 have HDD1:Hid (d=p1.dm):=by show _=_;rw[hp1];exact HDD.out
 clear HO HD hp1
 have HO:=HO1
 have HD:=HD1
 have HDp:=HDD
 clear HO1 HD1 HDD
 have HDD:=HDD1
 clear HDD1
 go_upto_region 9 with fail
 go_loopw [7,8] (fun vv iv wr=>∃(i:Nat) (va:Option Addr) (vc:Nat),i≤n∧iv=.int .i64 (i:Int)∧vv=.slice va i vc∧Hid (MuAt (RwE (LnE d) 2 d) 2 126 (·.map (·.map flp)) (PolyP mx ps) pb tb tf tc T p1 l' Q' w3 W3 xs i (.slice va i vc) wr)) (fun _ iv _=>n - (intOf iv).toNat)
 case atStart=>exact⟨0,none,0,Nat.zero_le _,rfl,rfl,P1.out⟩
 case round =>
  obtain⟨i,va,vc,hi,rfl,rfl,hrel⟩:=hrel
  obtain⟨q,rf,Q,dn,rest,hq1,hq2,hpr,hrf,hall,hdn,hsq,hown⟩:=hrel.out.st
  by_cases hlt:i < n
  ·obtain⟨x,rest',hrs⟩:∃x rest',rest=x :: rest':=by
    cases rest with
    | nil =>
     exfalso
     have h3:=HNL.out
     rw[hall] at h3
     simp at h3
     omega
    | cons x rest'=>exact⟨x,rest',rfl⟩
   subst hrs
   obtain⟨Q1,l2,k1,hk,hx1,hsq'⟩:=hsq.split
   have hkr:k1=rest'.length:=by simpa using hk.symm
   subst hkr
   have CK0:=poly195 (p:={ p1 with pos:=q,rf:=rf }) hpr (by have:=hrel.out.fr.size;have:=HW3.out;omega) hmx ⟨HO.out.dims,HO.out.lo,HO.out.hi,HO.out.bd,HO.out.sc⟩ hrf hx1 ⟨HD.out.le,HD.out.wd,HD.out.hz,HD.out.hm⟩ (HNE.out x (by rw[hall];simp)).1 (HNE.out x (by rw[hall];simp)).2
   unfold PgPost at CK0
   rw[show ({ p1 with pos:=q,rf:=rf }:Pr).dm=d from HDD.out.symm] at CK0
   skip
   have CK:=zH CK0
   have HALL:=zH hall
   have HDN:=zH hdn
   have HSQ:=zH hsq'
   have HOWN:=zH hown
   have HQ1:=zH hq1
   have HSM:Hid (W3≤wr.heap.size):=by show _≤_;have:=hrel.out.fr.size;have:=HW3.out;omega
   have FREL:=zH hrel.out.fr
   clear CK0 hrel hq1 hq2 hpr hrf hall hdn hsq hown hx1 hsq' hk
   go_upto_region 12 with (go_at_call 195;refine CK.out.mono ?_;rintro e w2 ⟨g2,n2,c2,rfl,q2,rf2,h2⟩)
   obtain⟨w5,hw5⟩:∃w5,w5=w2.alloc (.cells #[.slice (some ⟨g2,0,none⟩) n2 c2,.int .u8 d] 126):=⟨_,rfl⟩
   rw[←hw5]
   have F5:Hid (ZF w2 w5):=by show Fr _ _ _;rw[hw5];exact (Fr.refl _ w2).alloc _
   have B5:Hid (w5.heap[w2.heap.size]?=some (.cells #[.slice (some ⟨g2,0,none⟩) n2 c2,.int .u8 d] 126 (0,0))):=by show _=_;rw[hw5];exact zN w2 _
   clear hw5
   have u0:w5.cell? ⟨w2.heap.size,0,none⟩=some (.slice (some ⟨g2,0,none⟩) n2 c2):=by rw[zC B5.out];rfl
   have u1:w5.cell? ⟨w2.heap.size,1,none⟩=some (.int .u8 d):=by rw[zC B5.out];rfl
   have FOO:Hid (Fr (Eq pb) wr w5):=(h2.out.2.2.2.2.2.2.2).trans (F5.out.weak (fun _ h=>h.elim))
   have LN:Hid ((RwE (LnE d) 2 d) (fun b=>wr.heap.size≤b) w5 [.slice (some ⟨g2,0,none⟩) n2 c2,.int .u8 d] (((·.map (·.map flp)):List (List (Int × Int))→_) x)):=by
     show (RwE (LnE d) 2 d) _ _ _ _
     have h7:=h2.out.2.1
     exact (RwE.kp (LnE.kp d) (s:=2) (by decide) d).kept (fun b _ hl=>F5.out.block b hl (fun h=>h)) h7
   obtain⟨cs,hown,hnx⟩:=rows_next (RwE.kp (LnE.kp d) (s:=2) (by decide) d) HOWN.out (fun b h1 h2=>FOO.out.block b h2 (by omega)) HSM.out rfl LN.out
   rw[List.length_map,HDN.out] at hown hnx
   have OWN:=zH hown
   have NX:=zH hnx
   clear hown hnx
   have K3:Hid (i+1≤maxLen):=by show _≤_;unfold maxLen;omega
   have K4:Hid ((i+1)*32≤140737488355328):=by show _≤_;omega
   have K5:Hid (W3≤(w5.alloc (.cells #[.slice (some ⟨g2,0,none⟩) n2 c2,.int .u8 d] 126)).heap.size):=by
    have h1:=FOO.out.size
    have h2:=HSM.out
    show _≤(w5.heap.push _).size
    rw[Array.size_push];omega
   have K7:Hid ((w5.alloc (.cells #[.slice (some ⟨g2,0,none⟩) n2 c2,.int .u8 d] 126)).ownsRow W3 126 2 (.slice va i vc) i cs):=OWN.out.alloc _
   have KO:Hid (∀u∈[Value.slice (some ⟨g2,0,none⟩) n2 c2,.int .u8 d],u.oneCell'=true):=by
    intro u hu
    simp only[List.mem_cons,List.not_mem_nil,or_false] at hu
    rcases hu with rfl|rfl<;>rfl
   go_upto_region 10 with (at_builtin;refine wpList_append_own_at _ rfl _ _ 137 rfl W3 126 j0 (.agg #[.slice none 0 0,.int .u8 0]) 2 32 Tryz.underlying137 hj0 jz0 jz1 jz2 rfl (by decide) _ i cs rfl K7.out ⟨_,0,none⟩ 1 1 [.slice (some ⟨g2,0,none⟩) n2 c2,.int .u8 d] rfl rfl (cell2_new _ _ _ _) KO.out K3.out K4.out K5.out ?_;intro v' w7 hown1 hgrow1 _ hat;obtain⟨g6,cap6,rfl,_,_⟩:=own_capE hown1 (Nat.succ_pos _);have HH:=zH (NX.out _ _ _ hown1 hgrow1 hat);clear hown1 hgrow1 hat)
   have HPRX:Hid (PrAt pb tb tf tc T { p1 with pos:=q2,rf:=rf2 } w2):=by
    have h9:=h2.out.2.2.2.2.2.1
    rw[HDD.out] at h9
    exact h9
   have HR:Hid (MuAt (RwE (LnE d) 2 d) 2 126 (·.map (·.map flp)) (PolyP mx ps) pb tb tf tc T p1 l' Q' w3 W3 xs (i+1) (.slice (some ⟨g6,0,none⟩) (i+1) cap6) w7):=by
    have hsq2:=HSQ.out
    rw[h2.out.2.2.2.2.1] at hsq2
    have e1:=HQ1.out
    have e2:q≤q2:=h2.out.2.2.1
    refine⟨(FREL.out.trans FOO.out).transNew HH.out.2 (fun b hb=>.inl (by have:=HW3.out;omega)),q2,rf2,Q1,dn++[x],rest',by omega,h2.out.2.2.2.1,(HPRX.out.keep F5.out).fr HH.out.2 (by omega) (by omega),h2.out.2.2.2.2.2.2.1,by rw[HALL.out];simp,by rw[List.length_append,HDN.out];rfl,hsq2,?_⟩
    rw[List.map_append]
    exact HH.out.1
   clear HH NX OWN K7 K5 LN u0 u1
   go_wp2_with fail
   go_roundw
   case rel=>exact⟨i+1,_,_,by omega,by go_num,rfl,HR.out⟩
   case measure=>simp[intOf];omega
  ·have hin:i=n:=by omega
   subst hin
   have hr0:rest=[]:=by
    have:=HNL.out
    rw[hall] at this
    simp at this
    exact List.eq_nil_of_length_eq_zero (by omega)
   subst hr0
   rw[List.append_nil] at hall
   subst hall
   have hQQ:Q=Q'∧T.drop q=l':=by cases hsq;exact⟨rfl,rfl⟩
   obtain⟨rfl,hlq⟩:=hQQ
   obtain⟨cso,hcso⟩:=hown.own
   obtain⟨g3,c3,hv3,hg3,_⟩:=own_capE hcso (by rw[List.length_map,hdn];exact hn0)
   rw[List.length_map,hdn] at hv3
   injection hv3 with hva _ hvc
   subst hva hvc
   have hdone:=hown.done (RwE.kp (LnE.kp d) (s:=2) (by decide) d) (by decide)
   rw[HDD.out] at hdone
   have F3R:=zH hrel.out.fr
   have FR0:=zH (F03.out.trans hrel.out.fr)
   have CN:Hid (Calls Tryz.prog 169 #[.slice (some ⟨g3,0,none⟩) i vc] wr (NwPost (RwE (LnE d) 2 d) 2 d (fun b=>W3≤b) (xs.map (·.map (·.map flp))) wr)):=new169 hd3 (P:=fun b=>W3≤b) (fun b hb=>by have:=F3R.out.size;have:=HW3.out;show W3≤b;omega) (by rw[HDD.out];exact hdone) hn0 (by omega)
   have HBW:=zH ((FR0.out.block w.heap.size (by omega) (by omega)).trans B0.out)
   have HPR:=zH hpr
   have HLQ:=zH hlq
   have HRF2:=zH hrf
   have HQ12:=zH (⟨hq1,hq2⟩:_∧_)
   clear hrel hq1 hq2 hpr hrf hdn hsq hown hlq hcso hdone
   go_upto_region 15 with fail
   go_wp2_with (go_at_call 169;refine CN.out.mono ?_;rintro e w9 ⟨g9,n9,c9,rfl,h9⟩;have HB9:=zH ((h9.out.1.block w.heap.size (zG HBW.out).1 (fun h=>h)).trans HBW.out);have z0:w9.cell? ⟨w.heap.size,0,none⟩=some (.slice none 0 0):=(by rw[zC HB9.out];rfl);have z1:w9.cell? ⟨w.heap.size,1,none⟩=some (.int .u8 0):=(by rw[zC HB9.out];rfl);have zf:∀j,w9.frozen? ⟨w.heap.size,j,none⟩=false:=fun j=>zF HB9.out j)
   refine bodyPost_ret (v:=.tuple #[.agg #[.slice (some ⟨g9,0,none⟩) n9 c9,.int .u8 d],.nilIface]) (by simp[results,Tryz.f198,go_sem,z0,z1]) rfl ?_
   have fS:Fr (Eq w.heap.size) w9 ((w9.setCell ⟨w.heap.size,0,none⟩ (.slice (some ⟨g9,0,none⟩) n9 c9)).setCell ⟨w.heap.size,1,none⟩ (.int .u8 d)):=((Fr.refl _ w9).setR _).setR _
   have hsr:=FR0.out.size
   refine⟨g9,n9,c9,by rw[HDp.out],q,rf,v3,h9.out.2.1,?_,?_,HQ12.out.2,HLQ.out.symm,?_,HRF2.out,?_,?_⟩
   ·rw[←HDp.out]
    exact (RwE.kp (RwE.kp (LnE.kp d) (s:=2) (by decide) d) (by decide) d).mono (fun b hb _=>by omega) ((RwE.kp (RwE.kp (LnE.kp d) (s:=2) (by decide) d) (by decide) d).kept (fun b hb hl=>fS.block b hl (by omega)) h9.out.2.2)
   ·have e1:=HQ12.out.1
    rw[HP1.out] at e1
    have e2:q1≤q3:=h3.out.1
    have e3:p.pos < q1:=h1.out.1
    have e4:q3≤q:=e1
    omega
   ·have e1:=(HPR.out.keep h9.out.1).fr fS (by omega) (by omega)
    rw[HP1.out] at e1
    exact e1
   ·refine⟨fun e=>h3.out.2.2.2.2.2.1 e,fun e=>?_⟩
    obtain⟨gi,g1,g2,g3⟩:=h3.out.2.2.2.2.2.2 e
    have gl:=(zG g3).1
    have gs:=h1.out.2.2.2.2.size
    exact⟨gi,by omega,g2,(fS.block gi (by have:=h9.out.1.size;have:=F3R.out.size;omega) (by omega)).trans ((h9.out.1.block gi (by have:=F3R.out.size;omega) (fun h=>h)).trans ((F3R.out.block gi gl (by omega)).trans g3))⟩
   ·exact (((F0.out.weak (fun _ h=>h.elim)).trans FR0.out).trans (h9.out.1.weak (fun _ h=>h.elim))).transNew fS (fun b e=>.inl (by omega))
end Go.Proofs.YtnjjgbcmjnfijaaGreatDoor
