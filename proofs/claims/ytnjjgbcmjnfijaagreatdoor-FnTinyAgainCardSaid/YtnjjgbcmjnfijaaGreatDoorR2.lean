/- The package's reader of tiny bytes: places. No condition. -/
import Derived.Test.YtnjjgbcmjnfijaaGreatDoorR0
import Derived.Test.YtnjjgbcmjnfijaaGreatDoorG8
import Derived.BigRegion
import Derived.Test.YtnjjgbcmjnfijaaGreatDoorG6
import Derived.Test.YtnjjgbcmjnfijaaGreatDoorRa
namespace Go.Proofs.YtnjjgbcmjnfijaaGreatDoor
set_option maxRecDepth 100000
set_option maxHeartbeats 4000000
open Go.RowKit
theorem run_app:∀(ds es:List Int) (q:List (Int × Int)),0 < q.length→run q (ds++es)=run q ds++run (runE q ds) es∧runE q (ds++es)=runE (runE q ds) es
 | [],es,q,_=>by cases q<;>simp[run,runE]
 | d :: ds,es,(p,a) :: q,_=>by
  have:=run_app ds es (q++[(p,a+d)]) (by simp)
  rw[List.cons_append,run,run,runE,runE,this.1,this.2]
  exact⟨rfl,rfl⟩
theorem make24(n:Nat)(h:n≤1000000000):∀w,(Instr.makeSlice 24 (.int .i64 n) (.int .i64 n)).run Tryz.prog w=.ok (.slice (some ⟨w.heap.size,0,none⟩) n n) (w.alloc (.cells (zfl n) 40)):=by
 obtain⟨j0,hj0,jz0,jz1,jz2⟩:=info_parts info40
 intro w
 have:=run_make (P:=Tryz.prog) w 24 40 j0 (.float .f64 0) Tryz.underlying24 hj0 jz0 .i64 .i64 n n (by omega) (Int.le_refl _) (by rw[jz2];omega) (by omega)
 rw[this,jz1,Nat.mul_one,Int.toNat_natCast,zfl_made]
structure ScOk (p:Pr) (ps:List Int):Prop where
 dims:p.dims=ps.length
 lo:2≤ps.length
 hi:ps.length≤4
 bd:∀x∈ps,0≤x∧x≤7
 sc:∀(d:Nat) (hd:d < ps.length),p.sc d=floatOfInt .f64 ((10 ^ (ps[d]).toNat:Nat):Int)
def RfOk (rf:Nat→Int) (Q:List Int):Prop:=∀(d:Nat) (hd:d < Q.length),rf d=Q[d]
def FlRow (g:Nat) (xs:List Nat) (N:Nat) (w:World):Prop:=w.heap[g]?=some (.cells ((xs++List.replicate (N - xs.length) 0).map flv).toArray 40 (0,0))
structure PaAt (pb tb tf tc:Nat) (T:List UInt8) (p:Pr) (ps Q0:List Int) (ds:List Int) (l':List UInt8) (w:World) (N k t:Nat) (wr:World):Prop where
 fr:Fr (Eq pb) w wr
 st:∃(q:Nat) (rf:Nat→Int) (Q dn rest:List Int),p.pos≤q∧q≤T.length∧PrAt pb tb tf tc T { p with pos:=q,rf:=rf } wr∧RfOk rf Q∧Q.length=ps.length∧ds=dn++rest∧dn.length=t∧RC (T.drop q) rest l'∧runE (ps.zip Q0) dn=queue ps Q k∧FlRow w.heap.size ((run (ps.zip Q0) dn).map flp) N wr
def PaPost (pb tb tf tc:Nat) (T:List UInt8) (p:Pr) (xs:List (Int × Int)) (Q':List Int) (l':List UInt8) (w:World) (e:Ending) (w':World):Prop :=
 e=.returned (.tuple #[.slice (some ⟨w.heap.size,0,none⟩) xs.length xs.length,.nilIface])∧∃(q:Nat) (rf:Nat→Int),Hid (p.pos≤q∧q≤T.length∧l'=T.drop q∧PrAt pb tb tf tc T { p with pos:=q,rf:=rf } w'∧RfOk rf Q'∧Fr (Eq pb) w w'∧w'.heap[w.heap.size]?=some (.cells ((xs.map flp).map flv).toArray 40 (0,0)))
theorem PrAt.setRf{pb tb tf tc:Nat}{T:List UInt8}{p:Pr}{w:World}(h:PrAt pb tb tf tc T p w)(k:Nat)(hk:k < 4)(v:Int):PrAt pb tb tf tc T { p with rf:=fun d=>if d=k then v else p.rf d } (w.setCell ⟨pb,21+k,none⟩ (.int .i64 v)):=by
 refine (h.set (21+k) (.int .i64 v) { p with rf:=fun d=>if d=k then v else p.rf d } ?_ h.pos).1
 have:k=0∨k=1∨k=2∨k=3:=by omega
 rcases this with rfl|rfl|rfl|rfl<;>rfl
theorem FlRow.keep{R:Nat→Prop}{g N:Nat}{xs:List Nat}{w w':World}(h:FlRow g xs N w)(f:Fr R w w')(hn:¬R g):FlRow g xs N w':=(f.block g (zG h).1 hn).trans h
theorem FlRow.snoc{g N:Nat}{xs:List Nat}{w:World}(h:FlRow g xs N w)(hN:xs.length < N)(x:Nat):FlRow g (xs++[x]) N (w.setCell ⟨g,xs.length,none⟩ (.float .f64 x)):=by
 unfold FlRow
 rw[Lib.heap_setCell_same h]
 congr 2
 obtain⟨r,hr⟩:∃r,N - xs.length=r+1:=⟨N - xs.length - 1,by omega⟩
 have e2:N - (xs++[x]).length=r:=by simp;omega
 rw[hr,e2]
 apply Array.toList_inj.1
 simp[List.replicate_succ,flv]
theorem FlRow.cell{g N:Nat}{xs:List Nat}{w:World}(h:FlRow g xs N w)(i:Nat)(hi:i < N)(hx:xs.length≤N):∃x,w.cell? ⟨g,i,none⟩=some (.float .f64 x):=by
 rw[zC h]
 obtain⟨ys,hys⟩:∃ys,ys=xs++List.replicate (N - xs.length) 0:=⟨_,rfl⟩
 have hl:i < ys.length:=by rw[hys];simp;omega
 rw[←hys]
 exact⟨ys[i],by simp[hl,flv]⟩
theorem RC.step{l l':List UInt8}{d:Int}{ds:List Int}(h:RC l (d :: ds) l'):∃z l1,UV l z l1∧z < 18446744073709551616∧d=unz z∧RC l1 ds l':=by
 cases h with
 | cons h1 h2 h3=>exact⟨_,_,h1,h2,rfl,h3⟩
theorem points240{pb tb tf tc:Nat}{T:List UInt8}{p:Pr}{w:World}(h:PrAt pb tb tf tc T p w)(htw:tb < w.heap.size){ps Q0 Q':List Int}{n:Nat}{l':List UInt8}{xs:List (Int × Int)}(ho:ScOk p ps)(hrf:RfOk p.rf Q0)(hr:RowP ps Q0 n (T.drop p.pos) xs Q' l')(hn:n≤5000):
  Calls Tryz.prog 240 #[.pointer (some ⟨pb,0,none⟩),.int .i64 n] w (PaPost pb tb tf tc T p xs Q' l' w):=by
 obtain⟨m,hm⟩:∃m,m=ps.length:=⟨_,rfl⟩
 obtain⟨ds,hrc,hdl,hrE,hxs⟩:=hr.ex
 have hm2:=ho.lo
 have hm4:=ho.hi
 rw[←hm] at hm2 hm4 hdl
 have hdm:p.dims=m:=by rw[ho.dims,hm]
 obtain⟨N,hN⟩:∃N,N=n*m:=⟨_,rfl⟩
 have hNb:N≤20000:=by rw[hN];exact Nat.le_trans (Nat.mul_le_mul hn hm4) (by decide)
 have hq0:0 < (ps.zip Q0).length:=by rw[List.length_zip,hr.q0];omega
 have hxl:xs.length=N:=by
  rw[hxs,run_length _ _ hq0,hdl,hN]
 have hmk:=make24 N (by omega)
 have emul:IntKind.i64.wrap ((n:Int)*(m:Int))=(N:Int):=by
  have h1:(n:Int)*(m:Int)=((n*m:Nat):Int):=by simp
  rw[h1,←hN]
  simp[IntKind.wrap,IntKind.bits,IntKind.signed]
  omega
 have c4:=h.c4
 rw[hdm] at c4
 have HM:=zH hm
 have H:=zH h
 have HN:=zH hN
 have hpb:=h.lt
 have hsf:=st_fl
 have H0:Hid (PaAt pb tb tf tc T p ps Q0 ds l' w N 0 0 (w.alloc (.cells (zfl N) 40))):=by
  have f:ZF w (w.alloc (.cells (zfl N) 40)):=(Fr.refl _ w).alloc _
  refine⟨(Fr.refl _ w).alloc _,p.pos,p.rf,Q0,[],ds,Nat.le_refl _,h.pos,h.keep f,hrf,hr.q0,rfl,rfl,hrc,?_,?_⟩
  ·rw[queue_zero];cases ps.zip Q0<;>rfl
  ·have e:run (ps.zip Q0) []=[]:=by cases ps.zip Q0<;>rfl
   rw[e]
   exact zN w _
 have HR:=zH hr
 have HDS:=zH (⟨hdl,hrE,hxs,hxl⟩:_∧_∧_∧_)
 have HO:=zH ho
 have hdm2:=zH hdm
 obtain⟨w0,hw0⟩:∃w0,w0=w.alloc (.cells (zfl N) 40):=⟨_,rfl⟩
 rw[←hw0] at H0
 have HW0:=zH hw0
 obtain⟨G,hG⟩:∃G,G=w.heap.size:=⟨_,rfl⟩
 have HG:=zH hG
 clear hm hN h hr ho hrf hrc hrE hxs hxl hdl hdm hq0 hw0 hG
 go_enter Tryz.func240,Tryz.ntmps240
 go_upto_region 3 with fail
 rw[←HW0.out,←HG.out]
 clear c4 emul hmk
 go_wp2_with fail
 go_loopw [7,8] (fun cv iv wr=>∃(i:Nat),i≤n∧iv=.int .i64 (i:Int)∧cv=.int .i64 ((i*m:Nat):Int)∧Hid (PaAt pb tb tf tc T p ps Q0 ds l' w N 0 (i*m) wr)) (fun _ iv _=>n - (intOf iv).toNat)
 case atStart=>exact⟨0,Nat.zero_le _,rfl,by rw[Nat.zero_mul];rfl,by rw[Nat.zero_mul];exact H0.out⟩
 case round =>
  obtain⟨i,hi,rfl,rfl,hrel⟩:=hrel
  by_cases hlt:i < n
  ·go_upto_region 7 with fail
   have H1:=hrel
   clear hrel
   go_loopw [7,9] (fun cv dv wr=>∃(k:Nat),k≤m∧dv=.int .i64 (k:Int)∧cv=.int .i64 ((i*m+k:Nat):Int)∧Hid (PaAt pb tb tf tc T p ps Q0 ds l' w N k (i*m+k) wr)) (fun _ dv _=>m - (intOf dv).toNat)
   case atStart=>exact⟨0,Nat.zero_le _,rfl,rfl,H1.out⟩
   case round =>
    clear H1
    obtain⟨k,hk,rfl,rfl,hrel⟩:=hrel
    obtain⟨q,rfn,Q,dn,rest,hq1,hq2,hpr,hrf,hQl,hds,hdn,hrest,hrun,hrow⟩:=hrel.out.st
    have c4:=hpr.c4
    rw[show ({ p with pos:=q,rf:=rfn }:Pr).dims=m from hdm2.out] at c4
    have HPR:=zH hpr
    have HRF:=zH hrf
    have HQL:=zH hQl
    have HDD:=zH hds
    have HDN:=zH hdn
    have HRE:=zH hrest
    have HRU:=zH hrun
    have HRO:=zH hrow
    have HQ12:=zH (⟨hq1,hq2⟩:_∧_)
    clear hpr hrf hQl hds hdn hrest hrun hrow hq1 hq2
    by_cases hkm:k < m
    ·
     have hik:i*m+k < N:=by
      have h1:i*m+m≤n*m:=by rw[←Nat.succ_mul];exact Nat.mul_le_mul_right _ hlt
      have:=HN.out
      omega
     obtain⟨d,rest',hrs⟩:∃d rest',rest=d :: rest':=by
      cases rest with
      | nil =>
       exfalso
       have h1:=HDD.out
       have h2:=HDS.out.1
       have h3:=HDN.out
       have h4:=HN.out
       rw[h1] at h2
       simp at h2
       omega
      | cons d rest'=>exact⟨d,rest',rfl⟩
     subst hrs
     obtain⟨z,l1,hu,hz,hdz,hrc⟩:=HRE.out.step
     subst hdz
     have hkQ:k < Q.length:=by rw[HQL.out,←HM.out];exact hkm
     have hkp:k < ps.length:=by rw[←HM.out];exact hkm
     have hstep:=run_step (unz z) hkp hkQ HRU.out
     obtain⟨nn,hnn⟩:∃nn,nn=Q[k]+unz z:=⟨_,rfl⟩
     rw[←hnn] at hstep
     have hbd : -9007199254740992≤nn∧nn≤9007199254740992:=by
      refine HR.out.bd (ps[k],nn) ?_
      rw[HDS.out.2.2.1,HDD.out,show dn++unz z :: rest'=(dn++[unz z])++rest' by simp,(run_app _ _ _ (by rw[List.length_zip,HR.out.q0];omega)).1,hstep.1]
      simp
     have C239:=zH (svar239 HPR.out hu)
     obtain⟨o,ho⟩:∃o,o=rfn k:=⟨_,rfl⟩
     have hon:o=Q[k]:=by rw[ho];exact HRF.out k hkQ
     have ewr:IntKind.i64.wrap (o+unz z)=nn:=by
      rw[hon,←hnn]
      simp[IntKind.wrap,IntKind.bits,IntKind.signed]
      omega
     obtain⟨s,hs⟩:∃s,s=p.sc k:=⟨_,rfl⟩
     have hps:=HO.out.bd _ (List.getElem_mem hkp)
     have hq:=vl_run nn (ps[k]).toNat (by omega) (by omega)
     rw[←HO.out.sc k hkp,←hs] at hq
     obtain⟨x,hx⟩:∃x,x=vl nn (ps[k]).toNat:=⟨_,rfl⟩
     rw[←hx] at hq
     obtain⟨u,hu2⟩:∃u,u=unz z:=⟨_,rfl⟩
     rw[←hu2] at ewr C239
     have HX:=zH hx
     have HST:=zH hstep
     have HU:=zH hu2
     have HRC:=zH hrc
     have HOo:=zH ho
     have HSs:=zH hs
     have hkI:(k:Int) < 4:=by omega
     have hiI:((i*m+k:Nat):Int) < (N:Int):=by omega
     clear hx hstep hu2 hrc ho hs hnn hon hps hz hu
     go_upto_region 9 with fail
     go_upto_region 12 with (go_at_call 239;refine C239.out.mono ?_;rintro e w2 ⟨rfl,q2,h2⟩)
     have HP2:=zH h2.out.2.2.2.1
     have f12:=HP2.out.fz (21+k)
     have c12:=HP2.out.rf4 k (by omega)
     rw[show ({ p with pos:=q2,rf:=rfn }:Pr).rf k=o from HOo.out.symm] at c12
     clear c4
     go_region
     obtain⟨w3,hw3⟩:∃w3,w3=(w2.setCell ⟨pb,21+k,none⟩ (.int .i64 nn)).drew:=⟨_,rfl⟩
     rw[←hw3]
     obtain⟨rg,hrg⟩:∃rg:Nat→Int,rg=fun d=>if d=k then nn else rfn d:=⟨_,rfl⟩
     have hp3:PrAt pb tb tf tc T { p with pos:=q2,rf:=rg } w3:=by
      rw[hw3,hrg]
      exact (HP2.out.setRf k (by omega) nn).keep (Fr.refl _ _).drew
     have f3:Fr (Eq pb) w2 w3:=by rw[hw3];exact ((Fr.refl _ w2).setR _).drew
     have c21:=hp3.rf4 k (by omega)
     rw[show ({ p with pos:=q2,rf:=rg }:Pr).rf k=nn by show rg k=nn;rw[hrg];simp] at c21
     have c10:=hp3.sc4 k (by omega)
     rw[show ({ p with pos:=q2,rf:=rg }:Pr).sc k=s from HSs.out.symm] at c10
     have hGne:¬pb=G:=by rw[HG.out];omega
     have hro3:FlRow G ((run (ps.zip Q0) dn).map flp) N w3:=by
      have:=HRO.out
      rw[←HG.out] at this
      exact (this.keep h2.out.2.2.2.2 hGne).keep f3 hGne
     have hxlen:((run (ps.zip Q0) dn).map flp).length=i*m+k:=by
      rw[List.length_map,run_length _ _ (by rw[List.length_zip,HR.out.q0];omega),HDN.out]
     obtain⟨y0,cG⟩:=hro3.cell (i*m+k) hik (by omega)
     have fG:∀j,w3.frozen? ⟨G,j,none⟩=false:=fun j=>zF hro3 j
     have fG1:=fG (i*m+k)
     have HP3:=zH hp3
     have HRG:=zH hrg
     have F3:=zH f3
     have HRO3:=zH hro3
     have HXL:=zH hxlen
     have hGn:=zH hGne
     clear hp3 hrg hw3 f12 c12 ewr f3 hro3 fG hxlen hGne
     go_wp2_with fail
     go_region
     obtain⟨w4,hw4⟩:∃w4,w4=(w3.setCell ⟨G,i*m+k,none⟩ (.float .f64 x)).drew:=⟨_,rfl⟩
     rw[←hw4]
     have f4:Fr (Eq G) w3 w4:=by rw[hw4];exact ((Fr.refl _ w3).setR _).drew
     have HR4:Hid (PaAt pb tb tf tc T p ps Q0 ds l' w N (k+1) (i*m+(k+1)) w4):=by
      have hst:=HST.out
      have hlR:=HRC.out
      rw[h2.out.2.2.1] at hlR
      have hGe:=HG.out
      refine⟨((hrel.out.fr.trans h2.out.2.2.2.2).trans F3.out).transNew f4 (fun b e=>.inl (by omega)),q2,rg,Q.set k nn,dn++[unz z],rest',?_,h2.out.2.1,HP3.out.fr f4 (by omega) (by omega),?_,by rw[List.length_set];exact HQL.out,by rw[HDD.out];simp,by rw[List.length_append,HDN.out];rfl,hlR,hst.2,?_⟩
      ·have h5:=HQ12.out.1
       have h6:q < q2:=h2.out.1
       omega
      ·intro d hd
       rw[List.length_set] at hd
       rw[HRG.out,List.getElem_set]
       by_cases e:k=d
       ·subst e;simp
       ·have e2:¬d=k:=fun h=>e h.symm
        show (if d=k then nn else rfn d)=_
        rw[if_neg e2,if_neg e]
        exact HRF.out d hd
      ·have h5:=HRO3.out.snoc (by rw[HXL.out];exact hik) x
       rw[HXL.out] at h5
       have h6:=h5.keep (Fr.refl (fun _=>False) _).drew (fun h=>h)
       rw[←hw4] at h6
       rw[hst.1,List.map_append,←hGe]
       have e7:[(ps[k],nn)].map flp=[x]:=by rw[HX.out];rfl
       rw[e7]
       exact h6
     clear hw4 cG fG1 c21 c10
     go_wp2_with fail
     go_roundw
     case rel=>exact⟨k+1,by omega,by go_num,by go_num,HR4.out⟩
     case measure=>simp[intOf];omega
    ·have hkm2:k=m:=by omega
     subst hkm2
     have HR4:Hid (PaAt pb tb tf tc T p ps Q0 ds l' w N 0 ((i+1)*k) wr):=by
      have hst:=HRU.out
      rw[queue_full _ _ _ HM.out.symm (by rw[HQL.out,HM.out]),←queue_zero ps Q] at hst
      exact⟨hrel.out.fr,q,rfn,Q,dn,rest,HQ12.out.1,HQ12.out.2,HPR.out,HRF.out,HQL.out,HDD.out,by rw[HDN.out,Nat.succ_mul],HRE.out,hst,HRO.out⟩
     go_wp2_with fail
     go_roundw
     case rel=>exact⟨i+1,by omega,by go_num,by rw[Nat.succ_mul],HR4.out⟩
     case measure=>simp[intOf];omega
  ·have hin:i=n:=by omega
   subst hin
   have HF:Hid (PaPost pb tb tf tc T p xs Q' l' w (.returned (.tuple #[.slice (some ⟨G,0,none⟩) N N,.nilIface])) wr):=by
    obtain⟨q,rfn,Q,dn,rest,hq1,hq2,hpr,hrf,hQl,hds,hdn,hrest,hrun,hrow⟩:=hrel.out.st
    obtain⟨e1,e2,e3,e4⟩:=HDS.out
    have hr0:rest=[]:=by
     have:=e1
     rw[hds] at this
     simp at this
     refine List.eq_nil_of_length_eq_zero ?_
     omega
    subst hr0
    rw[List.append_nil] at hds
    subst hds
    have hQ:Q=Q':=by
     rw[e2,queue_zero] at hrun
     have h5:=congrArg (List.map (·.2)) hrun
     have z2:∀(a b:List Int),b.length=a.length→(a.zip b).map (·.2)=b:=fun a b h=>by
      rw[List.map_snd_zip]
      omega
     rw[z2 _ _ hQl,z2 _ _ HR.out.q1] at h5
     exact h5.symm
    subst hQ
    refine⟨by rw[e4,HG.out],q,rfn,hq1,hq2,?_,hpr,hrf,hrel.out.fr,?_⟩
    ·cases hrest;rfl
    ·have h6:=hrow
     unfold FlRow at h6
     rw[←e3] at h6
     rw[h6,List.length_map,e4,Nat.sub_self]
     simp
   go_wp2_with fail
   go_ret2
   exact HF.out
open Go.RowKit
def LnPost (pb tb tf tc:Nat) (T:List UInt8) (p:Pr) (m:Nat) (xs:List (Int × Int)) (Q':List Int) (l':List UInt8) (w:World) (e:Ending) (w':World):Prop :=
 ∃g n:Nat,e=.returned (.tuple #[.slice (some ⟨g,0,none⟩) xs.length xs.length,.int .i64 n,.nilIface])∧∃(q:Nat) (rf:Nat→Int),Hid (w.heap.size≤g∧n≤5000∧xs.length=n*m∧p.pos≤q∧q≤T.length∧l'=T.drop q∧PrAt pb tb tf tc T { p with pos:=q,rf:=rf } w'∧RfOk rf Q'∧Fr (Eq pb) w w'∧w'.heap[g]?=some (.cells ((xs.map flp).map flv).toArray 40 (0,0)))
theorem RowP.len{ps Q Q':List Int}{n:Nat}{l l':List UInt8}{xs:List (Int × Int)}(h:RowP ps Q n l xs Q' l')(hp:0 < ps.length):xs.length=n*ps.length:=(h.wr hp).len
theorem line241{pb tb tf tc:Nat}{T:List UInt8}{p:Pr}{w:World}(h:PrAt pb tb tf tc T p w)(htw:tb < w.heap.size){mx:Nat}(hmx:mx≤5000){ps Q0 Q':List Int}{l':List UInt8}{xs:List (Int × Int)}(ho:ScOk p ps)(hrf:RfOk p.rf Q0)(hr:LineP mx ps Q0 (T.drop p.pos) xs Q' l'):
  Calls Tryz.prog 241 #[.pointer (some ⟨pb,0,none⟩)] w (LnPost pb tb tf tc T p ps.length xs Q' l' w):=by
 obtain⟨n,l0,hn,hu,hr⟩:=hr
 have hm2:=ho.lo
 have hnb:n≤5000:=by omega
 have hnI:(n:Int)≤5000:=by omega
 have C238:=zH (uvar238 h hu)
 have C240:Hid (∀q1 w1,l0=T.drop q1→PrAt pb tb tf tc T { p with pos:=q1 } w1→tb < w1.heap.size→Calls Tryz.prog 240 #[.pointer (some ⟨pb,0,none⟩),.int .i64 n] w1 (PaPost pb tb tf tc T { p with pos:=q1 } xs Q' l' w1)):=fun q1 w1 e h1 h2=>by
  subst e
  exact points240 (p:={ p with pos:=q1 }) h1 h2 ⟨ho.dims,ho.lo,ho.hi,ho.bd,ho.sc⟩ hrf hr hnb
 have HL:=zH (hr.len (by omega))
 clear h hu hr ho hrf hn hm2
 go_enter Tryz.func241,Tryz.ntmps241
 go_upto_region 2 with (go_at_call 238;refine C238.out.mono ?_;rintro e w1 ⟨rfl,q1,h1⟩)
 have C240':=zH (C240.out q1 w1 h1.out.2.2.1 h1.out.2.2.2.1 (by have:=h1.out.2.2.2.2.size;omega))
 go_wp2_with (go_at_call 240;refine C240'.out.mono ?_;rintro e w2 ⟨rfl,q2,rf2,h2⟩)
 go_ret3
 obtain⟨a1,a2,a3,a4,a5,a6,a7⟩:=h2.out
 exact⟨_,n,rfl,q2,rf2,h1.out.2.2.2.2.size,hnb,HL.out,by have h5:=h1.out.1;have h6:q1≤q2:=a1;omega,a2,a3,a4,a5,h1.out.2.2.2.2.trans a6,a7⟩
theorem al3{w1:World}{b:Nat}{cs:Array Value}{t:TypeId}{f:Nat × Nat}(h:w1.heap[b]?=some (.cells cs t f))(A B C:Obj):(((w1.alloc A).alloc B).alloc C).heap[b]?=some (.cells cs t f) :=
 ((((Fr.refl (fun _=>False) w1).alloc A).alloc B).alloc C).block b (zG h).1 (fun h=>h) |>.trans h
def LsPost (pb tb tf tc:Nat) (T:List UInt8) (p:Pr) (xs:List (Int × Int)) (Q':List Int) (l':List UInt8) (w:World) (e:Ending) (w':World):Prop :=
 ∃g:Nat,e=.returned (.tuple #[.agg #[.int .u8 p.dm,.slice (some ⟨g,0,none⟩) xs.length xs.length],.nilIface])∧∃(q:Nat) (rf:Nat→Int),Hid (w.heap.size≤g∧p.pos≤q∧q≤T.length∧l'=T.drop q∧PrAt pb tb tf tc T { p with pos:=q,rf:=rf } w'∧RfOk rf Q'∧Fr (Eq pb) w w'∧w'.heap[g]?=some (.cells ((xs.map flp).map flv).toArray 40 (0,0)))
theorem ac193(d:Nat)(hd:d≤3)(g o n c:Nat)(w:World)(hn:n % wd d=0)(hl:n≤100000):Calls Tryz.prog 193 #[.slice (some ⟨g,o,none⟩) n c,.int .u8 d] w fun e w'=>e=.returned (.agg #[.int .u8 d,.slice (some ⟨g,o,none⟩) n c])∧w'=w.alloc (.cells #[.int .u8 d,.slice (some ⟨g,o,none⟩) n c] 119):=by
 have hd':d=0∨d=1∨d=2∨d=3:=by omega
 rcases hd' with rfl|rfl|rfl|rfl
 ·exact ac193_0 g o n c w hn hl
 ·exact ac193_1 g o n c w hn hl
 ·exact ac193_2 g o n c w hn hl
 ·exact ac193_3 g o n c w hn hl
theorem line194{pb tb tf tc:Nat}{T:List UInt8}{p:Pr}{w:World}(h:PrAt pb tb tf tc T p w)(htw:tb < w.heap.size){mx:Nat}(hmx:mx≤5000){ps Q0 Q':List Int}{l':List UInt8}{xs:List (Int × Int)}(ho:ScOk p ps)(hrf:RfOk p.rf Q0)(hr:LineP mx ps Q0 (T.drop p.pos) xs Q' l')(hd:p.dm≤3)(hpl:ps.length=wd p.dm):
  Calls Tryz.prog 194 #[.pointer (some ⟨pb,0,none⟩)] w (LsPost pb tb tf tc T p xs Q' l' w):=by
 have hpb:=h.lt
 obtain⟨w0,hw0⟩:∃w0,w0=w.alloc (.cells #[.int .u8 0,.slice none 0 0] 121):=⟨_,rfl⟩
 have f0:ZF w w0:=by rw[hw0];exact (Fr.refl _ w).alloc _
 have s0:w0.heap.size=w.heap.size+1:=by rw[hw0];show (w.heap.push _).size=_;rw[Array.size_push]
 have b0:w0.heap[w.heap.size]?=some (.cells #[.int .u8 0,.slice none 0 0] 121 (0,0)):=by rw[hw0];exact zN w _
 have C241:=zH (line241 (h.keep f0) (by omega) hmx ho hrf hr)
 have HW0:=zH hw0
 have F0:=zH f0
 have B0:=zH b0
 have HPL:=zH hpl
 obtain⟨d,hdd⟩:∃d,d=p.dm:=⟨_,rfl⟩
 have HD:=zH hdd
 have hd3:d≤3:=by omega
 have hwd:=wd_pos d
 clear h ho hrf hr hd hpl f0 b0 hw0 hdd
 go_enter Tryz.func194,Tryz.ntmps194
 go_upto_region 1 with fail
 rw[←HW0.out]
 go_upto_region 2 with (go_at_call 241;refine C241.out.mono ?_;rintro e w1 ⟨g,n,rfl,q1,rf1,h1⟩)
 obtain⟨N,hN⟩:∃N,N=xs.length:=⟨_,rfl⟩
 rw[←hN]
 have HN:=zH hN
 clear hN
 have hNl:N≤100000:=by
  have h5:=h1.out.2.2.1
  have h6:n*ps.length≤5000*4:=Nat.mul_le_mul h1.out.2.1 (by rw[HPL.out,←HD.out];exact hwd.2)
  rw[HN.out]
  omega
 have C193:Hid (∀w1,Calls Tryz.prog 193 #[.slice (some ⟨g,0,none⟩) N N,.int .u8 d] w1 fun e w'=>e=.returned (.agg #[.int .u8 d,.slice (some ⟨g,0,none⟩) N N])∧w'=w1.alloc (.cells #[.int .u8 d,.slice (some ⟨g,0,none⟩) N N] 119)):=fun w1=>ac193 d hd3 g 0 N N w1 (by rw[HN.out,h1.out.2.2.1,HPL.out,←HD.out];exact Nat.mul_mod_left _ _) hNl
 have C161:=zH ac161
 have c3:=h1.out.2.2.2.2.2.2.1.c3
 rw[show ({ p with pos:=q1,rf:=rf1 }:Pr).dm=d from HD.out.symm] at c3
 have hb1:w1.heap[w.heap.size]?=some (.cells #[.int .u8 0,.slice none 0 0] 121 (0,0)):=(h1.out.2.2.2.2.2.2.2.2.1.block _ (by omega) (by omega)).trans B0.out
 have hz1:w.heap.size < w1.heap.size:=(zG hb1).1
 have r0:∀A B C,(((w1.alloc A).alloc B).alloc C).cell? ⟨w.heap.size,0,none⟩=some (.int .u8 0):=fun A B C=>by rw[zC (al3 hb1 A B C)];rfl
 have r1:∀A B C,(((w1.alloc A).alloc B).alloc C).cell? ⟨w.heap.size,1,none⟩=some (.slice none 0 0):=fun A B C=>by rw[zC (al3 hb1 A B C)];rfl
 have rf:∀A B C i,(((w1.alloc A).alloc B).alloc C).frozen? ⟨w.heap.size,i,none⟩=false:=fun A B C i=>zF (al3 hb1 A B C) i
 go_wp2_with first|(go_at_call 193;refine (C193.out _).mono ?_;rintro e w2 ⟨rfl,rfl⟩)|(go_at_call 161;refine (C161.out _ _ _ _ _ _).mono ?_;rintro e w3 ⟨rfl,rfl⟩)
 refine bodyPost_ret (v:=.tuple #[.agg #[.int .u8 d,.slice (some ⟨g,0,none⟩) N N],.nilIface]) (by simp[results,Tryz.f194,go_sem,r0,r1]) rfl ?_
 obtain⟨a0,a1,a2,a3,a4,a5,a6,a7,a8,a9⟩:=h1.out
 have fS:∀A B C v0 v1,Fr (Eq w.heap.size) w1 (((((w1.alloc A).alloc B).alloc C).setCell ⟨w.heap.size,0,none⟩ v0).setCell ⟨w.heap.size,1,none⟩ v1):=fun A B C v0 v1=>(((((Fr.refl _ w1).alloc A).alloc B).alloc C).setR v0).setR v1
 have fS':=fS (.cells #[.int .u8 d,.slice (some ⟨g,0,none⟩) N N] 119) (.cells #[.int .u8 d,.slice (some ⟨g,0,none⟩) N N] 119) (.cells #[.int .u8 d,.slice (some ⟨g,0,none⟩) N N] 121) (.int .u8 d) (.slice (some ⟨g,0,none⟩) N N)
 refine⟨g,by rw[HD.out,HN.out],q1,rf1,by omega,a3,a4,a5,a6.fr fS' (by omega) (by omega),a7,?_,(fS'.block g (zG a9).1 (by omega)).trans a9⟩
 exact ((F0.out.weak (fun _ h=>h.elim)).trans a8).transNew fS' (fun b e=>.inl (by omega))
end Go.Proofs.YtnjjgbcmjnfijaaGreatDoor
