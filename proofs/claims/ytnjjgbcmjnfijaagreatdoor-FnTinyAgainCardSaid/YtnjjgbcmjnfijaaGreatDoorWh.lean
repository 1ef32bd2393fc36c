/- The package's writer of tiny bytes: places. No condition. -/
import Derived.Test.YtnjjgbcmjnfijaaGreatDoorWf
import Derived.Test.YtnjjgbcmjnfijaaGreatDoorWg
namespace Go.Proofs.YtnjjgbcmjnfijaaGreatDoor
set_option maxRecDepth 100000
set_option maxHeartbeats 4000000
open Go.RowKit
theorem SomeAt.setCells{g N:Nat}{t:TypeId}:∀(vs:List Value) (o:Nat) {w:World},SomeAt g t N w→SomeAt g t N (w.setCells g o vs)
 | [],_,_,h=>h
 | v :: vs,o,_,h=>SomeAt.setCells vs (o+1) (h.set o v)
theorem put_post2{gb:Nat}{w:World}(hb:SomeAt gb 357 10 w)(l:List UInt8)(hl:l.length≤10):
  (∀j,j < l.length→(w.cell? ⟨gb,0+j,none⟩).isSome=true∧w.frozen? ⟨gb,0+j,none⟩=false)∧Fr (Eq gb) w (w.setCells gb 0 (Lib.byteCells l))∧∀j u,(Lib.byteCells l)[j]?=some u→(w.setCells gb 0 (Lib.byteCells l)).cell? ((⟨gb,0,none⟩:Addr).add j)=some u:=by
 have h1:∀j,j < l.length→(w.cell? ⟨gb,0+j,none⟩).isSome=true∧w.frozen? ⟨gb,0+j,none⟩=false:=fun j hj=>by
  refine⟨?_,hb.fz _⟩
  obtain⟨v,hv⟩:=hb.cell (0+j) (by omega)
  rw[hv];rfl
 refine⟨h1,Fr.setCells rfl _ _ _,fun j u hu=>?_⟩
 have hj:j < (Lib.byteCells l).length:=(zL hu).1
 have e:(⟨gb,0,none⟩:Addr).add j=⟨gb,0+j,none⟩:=by cases j<;>simp[Addr.add]
 rw[e,World.cell?_setCells_in gb _ 0 w (fun j hj=>(h1 j (by simpa [Lib.byteCells] using hj)).1) j hj]
 rw[←hu]
 simp
theorem diffs_app:∀(xs ys q:List (Int × Int)),∃r,diffs q (xs++ys)=diffs q xs++r
 | [],ys,q=>⟨diffs q ys,by cases q<;>simp[diffs]⟩
 | _ :: _,_,[]=>⟨[],by simp[diffs]⟩
 | (p,x) :: xs,ys,(p',a) :: q=>by
  obtain⟨r,hr⟩:=diffs_app xs ys (q++[(p',x)])
  exact⟨r,by rw[List.cons_append,diffs,diffs,hr,List.cons_append]⟩
theorem encD_app(a b:List Int):encD (a++b)=encD a++encD b:=List.flatMap_append ..
theorem rowE_take(ps Q:List Int)(xs:List (Int × Int))(j:Nat):(rowE ps Q (xs.take j)).length≤(rowE ps Q xs).length:=by
 obtain⟨r,hr⟩:=diffs_app (xs.take j) (xs.drop j) (ps.zip Q)
 rw[List.take_append_drop] at hr
 unfold rowE
 rw[hr,encD_app,List.length_append]
 omega
theorem rowE_snoc{ps Q Q':List Int}{xs:List (Int × Int)}{j k:Nat}(hj:j < xs.length)(hk:k < ps.length)(hkQ:k < Q'.length)(hrun:runE (ps.zip Q) (diffs (ps.zip Q) (xs.take j))=queue ps Q' k):
  rowE ps Q (xs.take (j+1))=rowE ps Q (xs.take j)++Lib.uvarint (Lib.zigzag ((xs[j]).2 - Q'[k]))∧runE (ps.zip Q) (diffs (ps.zip Q) (xs.take (j+1)))=queue ps (Q'.set k (xs[j]).2) (k+1):=by
 rw[queue_cons ps Q' k hk hkQ] at hrun
 obtain⟨h1,h2⟩:=diffs_snoc (xs.take j) (ps.zip Q) _ _ (xs[j]).1 _ (xs[j]).2 hrun
 rw[List.take_succ_eq_append_getElem hj]
 unfold rowE
 rw[show (xs[j])=((xs[j]).1,(xs[j]).2) from rfl,h2,h1,encD_app,queue_set ps Q' k _ hk hkQ]
 exact⟨by rw[encD_cons];simp[encD],rfl⟩
structure WcOk (q:Wt) (ps:List Int):Prop where
 dims:q.dims=ps.length
 lo:2≤ps.length
 hi:ps.length≤4
 bd:∀x∈ps,0≤x∧x≤7
 sc:∀(d:Nat) (hd:d < ps.length),q.sc d=tn (ps[d]).toNat
def Wt.on (q:Wt) (cv:Value) (rf:Nat→Int) (ok:Bool) (mn mx:Nat→Int):Wt:={ q with cv:=cv,rf:=rf,ok:=ok,mn:=mn,mx:=mx }
def WpPost (B wb:Nat) (q:Wt) (Q':List Int) (H C:List UInt8) (w:World) (e:Ending) (w':World):Prop :=
 e=.returned (.tuple #[])∧∃cv rf ok mn mx,Hid (WtAt B wb (q.on cv rf ok mn mx) H C w'∧RfOk rf Q'∧Ch wb q (q.on cv rf ok mn mx) w w')
structure WpAt (B wb:Nat) (q:Wt) (ps Q:List Int) (H C:List UInt8) (w:World) (xs:List (Int × Int)) (k:Nat) (wr:World):Prop where
 fr:Fr (Rw wb q) w wr
 buf:SomeAt w.heap.size 357 10 wr
 st:∃cv rf ok mn mx Q',WtAt B wb (q.on cv rf ok mn mx) H (C++rowE ps Q xs) wr∧RfOk rf Q'∧Q'.length=ps.length∧runE (ps.zip Q) (diffs (ps.zip Q) xs)=queue ps Q' k∧cv.ownBlock≠some w.heap.size∧q.hv.ownBlock≠some w.heap.size∧(∀b,some b=cv.ownBlock→Rw wb q b∨w.heap.size≤b)
theorem cyc_at(ps:List Int)(hp:0 < ps.length)(N j i k:Nat)(hj:j=i*ps.length+k)(hk:k < ps.length)(hjN:j < N):(cyc ps N)[j]?=some ps[k]:=by
 have e1:cyc ps N=cyc ps j++cyc (rotS ps j) (N - j):=by
  rw[←cyc_add j (N - j) ps hp]
  congr 1
  omega
 have e2:rotS ps j=ps.drop k++ps.take k:=by
  rw[hj,rotS_add,rotS_mul]
  have h:=rotS_app (ps.take k) (ps.drop k)
  rw[List.take_append_drop,List.length_take,Nat.min_eq_left (by omega)] at h
  exact h
 rw[e1,List.getElem?_append_right (by rw[cyc_length _ _ hp];exact Nat.le_refl _),cyc_length _ _ hp,Nat.sub_self,e2,List.drop_eq_getElem_cons hk]
 obtain⟨r,hr⟩:∃r,N - j=r+1:=⟨N - j - 1,by omega⟩
 rw[hr,List.cons_append,cyc]
 rfl
theorem WtAt.sc4{B wb:Nat}{q:Wt}{H C:List UInt8}{w:World}(h:WtAt B wb q H C w)(d:Nat)(hd:d < 4):w.cell? ⟨wb,11+d,none⟩=some (.float .f64 (q.sc d))∧w.cell? ⟨wb,20+d,none⟩=some (.int .i64 (q.rf d))∧w.cell? ⟨wb,25+d,none⟩=some (.int .i64 (q.mn d))∧w.cell? ⟨wb,29+d,none⟩=some (.int .i64 (q.mx d)):=by
 rw[h.c,h.c,h.c,h.c]
 have:d=0∨d=1∨d=2∨d=3:=by omega
 rcases this with rfl|rfl|rfl|rfl<;>exact⟨rfl,rfl,rfl,rfl⟩
theorem WtAt.setMn{B wb:Nat}{q:Wt}{H C:List UInt8}{w:World}{cv:Value}{rf:Nat→Int}{ok:Bool}{mn mx:Nat→Int}(h:WtAt B wb (q.on cv rf ok mn mx) H C w)(k:Nat)(hk:k < 4)(v:Int):WtAt B wb (q.on cv rf ok (fun d=>if d=k then v else mn d) mx) H C (w.setCell ⟨wb,25+k,none⟩ (.int .i64 v)):=by
 refine (h.set (25+k) (.int .i64 v) (q.on cv rf ok (fun d=>if d=k then v else mn d) mx) ?_ rfl rfl).1
 have:k=0∨k=1∨k=2∨k=3:=by omega
 rcases this with rfl|rfl|rfl|rfl<;>rfl
theorem WtAt.setMx{B wb:Nat}{q:Wt}{H C:List UInt8}{w:World}{cv:Value}{rf:Nat→Int}{ok:Bool}{mn mx:Nat→Int}(h:WtAt B wb (q.on cv rf ok mn mx) H C w)(k:Nat)(hk:k < 4)(v:Int):WtAt B wb (q.on cv rf ok mn (fun d=>if d=k then v else mx d)) H C (w.setCell ⟨wb,29+k,none⟩ (.int .i64 v)):=by
 refine (h.set (29+k) (.int .i64 v) (q.on cv rf ok mn (fun d=>if d=k then v else mx d)) ?_ rfl rfl).1
 have:k=0∨k=1∨k=2∨k=3:=by omega
 rcases this with rfl|rfl|rfl|rfl<;>rfl
theorem WtAt.setRf{B wb:Nat}{q:Wt}{H C:List UInt8}{w:World}{cv:Value}{rf:Nat→Int}{ok:Bool}{mn mx:Nat→Int}(h:WtAt B wb (q.on cv rf ok mn mx) H C w)(k:Nat)(hk:k < 4)(v:Int):WtAt B wb (q.on cv (fun d=>if d=k then v else rf d) ok mn mx) H C (w.setCell ⟨wb,20+k,none⟩ (.int .i64 v)):=by
 refine (h.set (20+k) (.int .i64 v) (q.on cv (fun d=>if d=k then v else rf d) ok mn mx) ?_ rfl rfl).1
 have:k=0∨k=1∨k=2∨k=3:=by omega
 rcases this with rfl|rfl|rfl|rfl<;>rfl
theorem wp331{B wb:Nat}{q:Wt}{H C:List UInt8}{w:World}(h:WtAt B wb q H C w){ps Q:List Int}(ho:WcOk q ps)(hrf:RfOk q.rf Q)(hQ:QOk ps Q){n:Nat}(hn:n≤5000){xs:List (Int × Int)}(hx:WR ps n xs)(hsm:∀x∈xs,x.2.natAbs < 35184372088832){g o N c:Nat}(hN:N=xs.length)(hg:¬Rw wb q g)(hc:∀j u,(xs.map (fun x=>flv (flp x)))[j]?=some u→w.cell? ⟨g,o+j,none⟩=some u)(hC:(C++rowE ps Q xs).length≤10000000000000):
  Calls Tryz.prog 331 #[.pointer (some ⟨wb,0,none⟩),.int .i64 n,.slice (some ⟨g,o,none⟩) N c] w (WpPost B wb q (lastQ ps Q xs) H (C++rowE ps Q xs) w):=by
 obtain⟨m,hm⟩:∃m,m=ps.length:=⟨_,rfl⟩
 have hm2:=ho.lo
 have hm4:=ho.hi
 rw[←hm] at hm2 hm4
 have hlen:xs.length=n*m:=by rw[hx.len,hm]
 have hNb:N≤20000:=by rw[hN,hlen];exact Nat.le_trans (Nat.mul_le_mul hn hm4) (by decide)
 have hlt0:=h.lt
 have hpx:∀y:List Int,Q.length=y.length→y=ps→0 < (ps.zip Q).length:=fun y h1 h2=>by rw[List.length_zip,h1,h2];omega
 have hq0:=hpx ps hQ.1 rfl
 clear hpx
 have hsf:=st_fl
 obtain⟨i0,hi0,hz0,hz1,hz2⟩:=info_parts info5
 have H0:Hid (WpAt B wb q ps Q H C w [] 0 (w.alloc (.cells zb 357))):=by
  have f:ZF w (w.alloc (.cells zb 357)):=(Fr.refl _ w).alloc _
  have e0:diffs (ps.zip Q) []=[]:=by cases ps.zip Q<;>rfl
  have e1:runE (ps.zip Q) []=ps.zip Q:=by cases ps.zip Q<;>rfl
  refine⟨f.weak (fun _ h=>h.elim),⟨zb,rfl,zN w _⟩,q.cv,q.rf,q.ok,q.mn,q.mx,Q,?_,hrf,hQ.1,by rw[e0,e1,queue_zero],fun e=>by have:=(h.ct.lt _ e).2;omega,fun e=>by have:=(h.hd.lt _ e).2;omega,fun b e=>.inl (.inr (.inl e))⟩
  unfold rowE
  rw[e0,show encD []=[] from rfl,List.append_nil]
  exact h.keep f
 obtain⟨w0,hw0⟩:∃w0,w0=w.alloc (.cells zb 357):=⟨_,rfl⟩
 rw[←hw0] at H0
 have HW0:=zH hw0
 have HM:=zH hm
 have HO:=zH ho
 have HXS:=zH (⟨hx,hsm,hlen,hQ,hq0,hC,hN⟩:_∧_∧_∧_∧_∧_∧_)
 have HCX:Hid (∀j (hj:j < xs.length) wr,Fr (Rw wb q) w wr→wr.cell? ⟨g,o+j,none⟩=some (.float .f64 (flp xs[j]))):=fun j hj wr f=>f.cell (hc j _ (by simp[hj,flv])) hg
 clear hm hw0 h ho hx hsm hlen hQ hq0 hC hN hc hrf
 go_enter Tryz.func331,Tryz.ntmps331
 go_upto_region 1 with fail
 unfold zb at HW0
 rw[←HW0.out]
 go_wp2_with fail
 go_loopw [7,8] (fun cv iv wr=>∃(i:Nat),i≤n∧iv=.int .i64 (i:Int)∧cv=.int .i64 ((i*m:Nat):Int)∧Hid (WpAt B wb q ps Q H C w (xs.take (i*m)) 0 wr)) (fun _ iv _=>n - (intOf iv).toNat)
 case atStart=>exact⟨0,Nat.zero_le _,rfl,by rw[Nat.zero_mul];rfl,by rw[Nat.zero_mul];exact H0.out⟩
 case round =>
  obtain⟨i,hi,rfl,rfl,hrel⟩:=hrel
  by_cases hlt:i < n
  ·go_upto_region 6 with fail
   have H1:=hrel
   clear hrel
   go_loopw [7,9] (fun cv dv wr=>∃(k:Nat),k≤m∧dv=.int .i64 (k:Int)∧cv=.int .i64 ((i*m+k:Nat):Int)∧Hid (WpAt B wb q ps Q H C w (xs.take (i*m+k)) k wr)) (fun _ dv _=>m - (intOf dv).toNat)
   case atStart=>exact⟨0,Nat.zero_le _,rfl,rfl,H1.out⟩
   case round =>
    clear H1
    obtain⟨k,hk,rfl,rfl,hrel⟩:=hrel
    obtain⟨cv,rf,ok,mn,mx,Q',hst,hrf,hQl,hrun,hcb,hhb,hnx⟩:=hrel.out.st
    have c5:wr.cell? ⟨wb,5,none⟩=some (.int .i64 m):=by rw[hst.c];show some (Value.int .i64 q.dims)=_;rw[HO.out.dims,HM.out]
    have HST:=zH hst
    have HRF:=zH (⟨hrf,hQl,hrun,hcb,hhb⟩:_∧_∧_∧_∧_)
    have HNXT:=zH hnx
    clear hst hrf hQl hrun hcb hhb hnx
    by_cases hkm:k < m
    ·obtain⟨j,hj⟩:∃j,j=i*m+k:=⟨_,rfl⟩
     have hjN:j < xs.length:=by
      have h1:i*m+m≤n*m:=by rw[←Nat.succ_mul];exact Nat.mul_le_mul_right _ hlt
      have:=HXS.out.2.2.1
      omega
     have hkp:k < ps.length:=by rw[←HM.out];exact hkm
     have hp1:(xs[j]).1=ps[k]:=by
      have h1:=cyc_at ps (by omega) xs.length j i k (by rw[hj,HM.out]) hkp hjN
      rw[←HXS.out.1.fst] at h1
      simpa [hjN] using h1
     obtain⟨xn,hxn⟩:∃xn,xn=(xs[j]).2:=⟨_,rfl⟩
     obtain⟨p,hp⟩:∃p,p=(ps[k]).toNat:=⟨_,rfl⟩
     have hps:=HO.out.bd _ (List.getElem_mem hkp)
     have hbx:xn.natAbs < 35184372088832:=by rw[hxn];exact HXS.out.2.1 _ (List.getElem_mem hjN)
     obtain⟨y,hy1,hy2,hy3⟩:=vl_back xn p hbx (by omega)
     obtain⟨fx,hfx⟩:∃fx,fx=vl xn p:=⟨_,rfl⟩
     have cx:=HCX.out j hjN wr hrel.out.fr
     rw[show flp xs[j]=fx by rw[hfx,hxn,hp,←hp1];rfl] at cx
     obtain⟨s,hs⟩:∃s,s=tn p:=⟨_,rfl⟩
     have c4:=HST.out.sc4 k (by omega)
     have csc:=c4.1
     rw[show (q.on cv rf ok mn mx).sc k=s by rw[hs,hp];exact HO.out.sc k hkp] at csc
     rw[show vl xn p=fx from hfx.symm,show floatOfInt .f64 ((10 ^ p:Nat):Int)=s from hs.symm] at hy2
     obtain⟨Y1,hY1⟩:∃Y1,Y1=Fl.sg (decide (xn < 0)) y:=⟨_,rfl⟩
     obtain⟨Y2,hY2⟩:∃Y2,Y2=Fl.sg (decide (xn < 0)) (Fl.rnd y):=⟨_,rfl⟩
     have C351:Hid (∀w1,Calls Tryz.prog 351 #[.float .f64 Y1] w1 fun e w'=>e=.returned (.float .f64 Y2)∧w1=w'):=fun w1=>by rw[hY1,hY2];exact round351 _ y hy1 w1
     rw[←hY1] at hy2
     rw[←hY2] at hy3
     have fmul:∀t w1,(binOp .mul t (.float .f64 fx) (.float .f64 s)).run Tryz.prog w1=.ok (.float .f64 Y1) w1:=fun t w1=>run_float_arith w1 .mul t .f64 _ _ _ hy2
     have fcv:∀w1,(convert 40 2 (.float .f64 Y2)).run Tryz.prog w1=.ok (.int .i64 xn) w1:=fun w1=>run_convert_float_int w1 40 2 .f64 .i64 Y2 xn (by rw[Tryz.underlying40];rfl) Tryz.underlying2 hy3
     have hkI:(k:Int) < 4:=by omega
     have hjI:(j:Int) < (N:Int):=by have:=HXS.out.2.2.2.2.2.2;omega
     have hjb:j < 20000:=by have:=HXS.out.2.2.2.2.2.2;omega
     have HJ:=zH hj
     rw[←hj]
     have C4:=zH c4
     have HXN:=zH hxn
     have HP:=zH hp
     have HP1:=zH hp1
     clear hxn hp hp1
     clear hY1 hY2 hy1 hy2 hfx hs hj c4
     go_upto_region 8 with fail
     go_upto_block 4 with (go_at_call 351;(with_reducible refine (C351.out _).mono ?_);rintro e w' ⟨rfl,rfl⟩)
     clear fmul fcv csc cx hy3 hjI c5
     have c24:wr.cell? ⟨wb,24,none⟩=some (.bool ok):=HST.out.c 24
     have cm:=C4.out.2.2.1
     have cM:=C4.out.2.2.2
     obtain⟨mk,hmk⟩:∃mk:Int,mk=mn k:=⟨_,rfl⟩
     obtain⟨Mk,hMk⟩:∃Mk:Int,Mk=mx k:=⟨_,rfl⟩
     rw[show (q.on cv rf ok mn mx).mn k=mk from hmk.symm] at cm
     rw[show (q.on cv rf ok mn mx).mx k=Mk from hMk.symm] at cM
     have cfz:∀j,wr.frozen? ⟨wb,j,none⟩=false:=fun j=>HST.out.fz j
     obtain⟨z1,hz1'⟩:∃z1,decide (xn < mk)=z1:=⟨_,rfl⟩
     obtain⟨z2,hz2'⟩:∃z2,decide (xn > Mk)=z2:=⟨_,rfl⟩
     have HA:Hid (WtAt B wb (q.on cv rf ok (fun d=>if d=k then xn else mn d) mx) H (C++rowE ps Q (xs.take j)) (wr.setCell ⟨wb,25+k,none⟩ (.int .i64 xn))∧Fr (Eq wb) wr (wr.setCell ⟨wb,25+k,none⟩ (.int .i64 xn))):=⟨by have h:=HST.out.setMn k (by omega) xn;rw[←HJ.out] at h;exact h,(Fr.refl _ wr).setR _⟩
     have HB:Hid (WtAt B wb (q.on cv rf ok mn (fun d=>if d=k then xn else mx d)) H (C++rowE ps Q (xs.take j)) (wr.setCell ⟨wb,29+k,none⟩ (.int .i64 xn))∧Fr (Eq wb) wr (wr.setCell ⟨wb,29+k,none⟩ (.int .i64 xn))):=⟨by have h:=HST.out.setMx k (by omega) xn;rw[←HJ.out] at h;exact h,(Fr.refl _ wr).setR _⟩
     have HAB:Hid (WtAt B wb (q.on cv rf ok (fun d=>if d=k then xn else mn d) (fun d=>if d=k then xn else mx d)) H (C++rowE ps Q (xs.take j)) ((wr.setCell ⟨wb,25+k,none⟩ (.int .i64 xn)).setCell ⟨wb,29+k,none⟩ (.int .i64 xn))∧Fr (Eq wb) wr ((wr.setCell ⟨wb,25+k,none⟩ (.int .i64 xn)).setCell ⟨wb,29+k,none⟩ (.int .i64 xn))):=⟨HA.out.1.setMx k (by omega) xn,((Fr.refl _ wr).setR _).setR _⟩
     have HS0:Hid (WtAt B wb (q.on cv rf ok mn mx) H (C++rowE ps Q (xs.take j)) wr):=by have h:=HST.out;rw[←HJ.out] at h;exact h
     clear hmk hMk
     go_cut [] from 40 to 87 (fun w3=>Hid (∃mn' mx',WtAt B wb (q.on cv rf ok mn' mx') H (C++rowE ps Q (xs.take j)) w3∧Fr (Eq wb) wr w3))
     case first =>
      cases ok with
      | false =>
       go_wp2_with fail
       go_meet
       exact⟨_,_,HAB.out.1,HAB.out.2⟩
      | true =>
       cases z1 with
       | true =>
        go_wp2_with fail
        go_meet
        exact⟨_,_,HA.out.1,HA.out.2⟩
       | false =>
        cases z2 with
        | true =>
         go_wp2_with fail
         go_meet
         exact⟨_,_,HB.out.1,HB.out.2⟩
        | false =>
         go_wp2_with fail
         go_meet
         exact⟨_,_,HS0.out,Fr.refl _ _⟩
     case rest =>
      obtain⟨w3,hw3⟩:∃w3,w3=wc:=⟨_,rfl⟩
      rw[←hw3] at hcut ⊢
      clear hw3 wc
      obtain⟨mn',mx',h3,f3⟩:=hcut.out
      have H3:=zH h3
      have F3:=zH f3
      have hkQ:k < Q'.length:=by rw[HRF.out.2.1];exact hkp
      obtain⟨a,ha⟩:∃a,a=Q'[k]:=⟨_,rfl⟩
      have hra:rf k=a:=by rw[ha];exact HRF.out.1 k hkQ
      have c20:=(h3.sc4 k (by omega)).2.1
      rw[show (q.on cv rf ok mn' mx').rf k=a from hra] at c20
      have hab : -9007199254740992≤a∧a≤9007199254740992:=by
       have hbd:=runE_bd (xs.take j) (ps.zip Q) (zip_bd ps Q HXS.out.2.2.2.1.2) (fun y hy=>HXS.out.1.bd y (List.mem_of_mem_take hy))
       have hrun:=HRF.out.2.2.1
       rw[←HJ.out] at hrun
       rw[hrun] at hbd
       refine hbd (ps[k],a) ?_
       rw[queue_cons ps Q' k hkp hkQ,←ha]
       simp
      obtain⟨dd,hdd⟩:∃dd,dd=xn - a:=⟨_,rfl⟩
      have esub:IntKind.i64.wrap (xn - a)=dd:=by rw[hdd];simp[IntKind.wrap,IntKind.bits,IntKind.signed];omega
      have eadd:IntKind.i64.wrap (a+dd)=xn:=by rw[hdd];simp[IntKind.wrap,IntKind.bits,IntKind.signed];omega
      have hd1 : -18014398509481984≤dd∧dd≤18014398509481984:=by omega
      obtain⟨l,hl⟩:∃l,l=Lib.uvarint (Lib.zigzag dd):=⟨_,rfl⟩
      have hz64:Lib.zigzag dd < 18446744073709551616:=by unfold Lib.zigzag;split<;>omega
      have hl10:l.length≤10:=by rw[hl];exact Lib.uvarint_length64 hz64
      have hl0:0 < l.length:=by rw[hl];exact Lib.uvarint_pos _
      obtain⟨er1,er2⟩:=rowE_snoc (Q:=Q) hjN hkp hkQ (by have h:=HRF.out.2.2.1;rw[←HJ.out] at h;exact h)
      rw[←HXN.out,←ha,←hdd,←hl] at er1
      rw[←HXN.out] at er2
      have ER1:=zH er1
      have ER2:=zH er2
      have hB:B≤wb:=H3.out.le
      have hGlt:w.heap.size < wr.heap.size:=(zG hrel.out.buf.choose_spec.2).1
      have hs3:SomeAt w.heap.size 357 10 w3:=hrel.out.buf.keep f3 (by omega)
      obtain⟨hp1,hp2,hp3⟩:=put_post2 hs3 l hl10
      have CP:Hid (Calls Tryz.prog 286 #[.slice (some ⟨w.heap.size,0,none⟩) 10 10,.int .i64 dd] w3 fun e w'=>e=.returned (.int .i64 l.length)∧w3.setCells w.heap.size 0 (Lib.byteCells l)=w'):=by
       rw[hl] at hl10 hp1 ⊢
       exact (Tryz.binary_PutVarint w.heap.size 0 10 10 dd (by omega) (by omega) w3 hl10 hp1).mono (fun _ _ h=>⟨h.1,h.2.symm⟩)
      obtain⟨L,hL⟩:∃L,L=l.length:=⟨_,rfl⟩
      rw[←hL] at CP hl10 hl0
      obtain⟨w5,hw5⟩:∃w5,w5=w3.setCells w.heap.size 0 (Lib.byteCells l):=⟨_,rfl⟩
      rw[←hw5] at CP hp2 hp3
      have F5:=zH hp2
      have hs5:Hid (SomeAt w.heap.size 357 10 w5):=by show SomeAt _ _ _ _;rw[hw5];exact SomeAt.setCells _ _ hs3
      have hlt3:=h3.lt
      have h5:WtAt B wb (q.on cv rf ok mn' mx') H (C++rowE ps Q (xs.take j)) w5:=h3.fr hp2 (by omega) (fun b hb e=>HRF.out.2.2.2.2 (by rw[e];exact hb)) (fun b hb e=>HRF.out.2.2.2.1 (by rw[e];exact hb))
      have H6:Hid (WtAt B wb (q.on cv rf ok mn' mx') H (C++rowE ps Q (xs.take j)) w5.drew):=h5.keep ((Fr.refl _ w5).drew)
      obtain⟨av,cvc,hcv⟩:=slice_shape h5.ct
      have HCV:=zH hcv
      obtain⟨M,hM⟩:∃M,M=(C++rowE ps Q (xs.take j)).length:=⟨_,rfl⟩
      have HMl:=zH hM
      have c2:w5.cell? ⟨wb,2,none⟩=some (.slice av M cvc):=by rw[h5.c,hM];show some cv=_;rw[show cv=(q.on cv rf ok mn' mx').cv from rfl,hcv]
      have OWN:Hid (w5.drew.ownsRow B 5 1 (.slice av M cvc) M (Lib.byteCells (C++rowE ps Q (xs.take j)))):=by have:=h5.ct;rw[hcv,←hM] at this;exact this
      have hMb:M+L≤10000000000000:=by
       have h1:=rowE_take ps Q xs (j+1)
       rw[ER1.out,List.length_append] at h1
       have h2:=HXS.out.2.2.2.2.2.1
       rw[List.length_append] at h2
       rw[hM,hL,List.length_append]
       omega
      have K3:Hid (M+L≤maxLen):=by show _≤_;unfold maxLen;omega
      have K4:Hid ((M+L)*1≤140737488355328):=by show _≤_;omega
      have K5:Hid (B≤w5.drew.heap.size):=by have h2:=h5.lt;show B≤w5.heap.size;omega
      have KL:Hid ((Lib.byteCells l).length=L*1):=by show _=_;rw[hL];simp[Lib.byteCells]
      have hN10:(L:Int)≤10:=by omega
      have hN0:(0:Int)≤(L:Int):=by omega
      have H5:=zH h5
      have HNEW:Hid (∀j u,(Lib.byteCells l)[j]?=some u→w5.drew.cell? ((⟨w.heap.size,0,none⟩:Addr).add j)=some u):=hp3
      have HLl:=zH hL
      have HA:=zH ha
      have HRA:=zH hra
      clear h3 f3 ha hra hdd hl er1 er2 hp1 hp2 hp3 hs3 hw5 hcv hM hL h5 hl10 hz64 cm cM c24 cfz hd1 hab hcut
      go_upto_region 18 with fail
      go_upto_region 19 with (go_at_call 286;(with_reducible refine CP.out.mono ?_);rintro e w' ⟨rfl,rfl⟩)
      go_region_law (refine step_append_lies _ (by rfl) _ _ _ (by rfl) B 5 i0 (.int .u8 0) 1 1 Tryz.underlying22 hi0 hz0 hz1 hz2 rfl (by decide) _ M (Lib.byteCells (C++rowE ps Q (xs.take j))) (by rfl) OWN.out ⟨_,0,none⟩ L 10 (Lib.byteCells l) (by rfl) KL.out HNEW.out (byte_one l) hl0 K3.out K4.out K5.out _ rfl ?_;intro g6 cap6 w7 hown hgrow hat hlt7;have HH:=zH (H6.out.app (l:=l) (g:=g6) (m:=L) (cap:=cap6) (by rw[←HMl.out];exact hown) (by rw[HCV.out,←HMl.out];exact hgrow) (by rw[HCV.out,←HMl.out];exact hat) HLl.out.symm);have HAT:=zH hat;clear hown hgrow hat;have d2:w7.cell? ⟨wb,2,none⟩=some (.slice av M cvc):=(by rw[zC HH.out.1,HMl.out];show some (q.on cv rf ok mn' mx').cv=_;rw[HCV.out]);have df:∀k,w7.frozen? ⟨wb,k,none⟩=false:=fun k=>zF HH.out.1 k)
      all_goals
       obtain⟨w8,hw8⟩:∃w8,w8=w7.setCell ⟨wb,2,none⟩ (.slice (some ⟨g6,0,none⟩) (M+L) cap6):=⟨_,rfl⟩
       have H8:Hid (WtAt B wb (q.on (.slice (some ⟨g6,0,none⟩) (M+L) cap6) rf ok mn' mx') H (C++rowE ps Q (xs.take (j+1))) w8):=by
        have h:=HH.out.2.1
        rw[←HMl.out,←hw8,List.append_assoc,←ER1.out] at h
        exact h
       have F8:Hid (Fr (fun b=>some b=(Value.slice av M cvc).ownBlock∨b=wb) w5 w8):=by
        have h:=HH.out.2.2
        rw[←HMl.out,←hw8,HCV.out,←HMl.out] at h
        exact ((Fr.refl _ w5).drew).trans h
       rw[←hw8]
       have cvE:Hid (cv=.slice av M cvc):=by show _=_;rw[HMl.out];exact HCV.out
       clear hw8 HH d2 df c2 c20
       have c20:=(H8.out.sc4 k (by omega)).2.1
       rw[show (q.on (.slice (some ⟨g6,0,none⟩) (M+L) cap6) rf ok mn' mx').rf k=a from HRA.out] at c20
       have cf8:∀j,w8.frozen? ⟨wb,j,none⟩=false:=fun j=>H8.out.fz j
       go_upto_region 20 with fail
       go_region
       obtain⟨w9,hw9⟩:∃w9,w9=(w8.setCell ⟨wb,20+k,none⟩ (.int .i64 xn)).drew:=⟨_,rfl⟩
       have H9:Hid (WtAt B wb (q.on (.slice (some ⟨g6,0,none⟩) (M+L) cap6) (fun d=>if d=k then xn else rf d) ok mn' mx') H (C++rowE ps Q (xs.take (j+1))) w9):=by
        rw[hw9]
        exact (H8.out.setRf k (by omega) xn).keep ((Fr.refl _ _).drew)
       have F9:Hid (Fr (Eq wb) w8 w9):=by show Fr _ _ _;rw[hw9];exact ((Fr.refl _ w8).setR _).drew
       rw[←hw9]
       have HR4:Hid (WpAt B wb q ps Q H C w (xs.take (i*m+(k+1))) (k+1) w9):=by
        have hnb:∀b,some b=(Value.slice av M cvc).ownBlock→B≤b∧b≠w.heap.size:=fun b e=>by
         rw[←cvE.out] at e
         exact⟨(H5.out.ct.lt b e.symm).1,fun e2=>HRF.out.2.2.2.1 (by rw[←e2];exact e.symm)⟩
        have e9:i*m+(k+1)=j+1:=by have:=HJ.out;omega
        rw[e9]
        refine⟨?_,?_,_,_,_,_,_,Q'.set k xn,H9.out,?_,by rw[List.length_set];exact HRF.out.2.1,ER2.out,?_,HRF.out.2.2.2.2,fun b e=>?_⟩
        ·refine (((hrel.out.fr.transNew F3.out (fun b e=>.inr (.inl e.symm))).transNew F5.out (fun b e=>.inl (by omega))).transNew F8.out (fun b e=>?_)).transNew F9.out (fun b e=>.inr (.inl e.symm))
         rcases e with e|e
         ·rw[←cvE.out] at e
          exact (HNXT.out b e).symm
         ·exact .inr (.inl e)
        ·refine (hs5.out.keep F8.out (fun e=>?_)).keep F9.out (by omega)
         rcases e with e|e
         ·exact (hnb _ e).2 rfl
         ·omega
        ·intro d hd
         rw[List.length_set] at hd
         rw[List.getElem_set]
         by_cases e:k=d
         ·subst e;simp
         ·have e2:¬d=k:=fun h=>e h.symm
          show (if d=k then xn else rf d)=_
          rw[if_neg e2,if_neg e]
          exact HRF.out.1 d hd
        ·intro e
         have e:some g6=some w.heap.size:=e
         injection e with e
         rcases HAT.out with e2|e2
         ·exact (hnb g6 e2.symm).2 e
         ·have h1:=hs5.out.choose_spec.2
          have h2:=(zG h1).1
          have h3:g6=w5.heap.size:=e2
          omega
        ·have e:some b=some g6:=e
         injection e with e
         rcases HAT.out with e2|e2
         ·rw[←cvE.out] at e2
          exact HNXT.out b (by rw[e];exact e2.symm)
         ·have h1:=hs5.out.choose_spec.2
          have h2:=(zG h1).1
          have h3:g6=w5.heap.size:=e2
          exact .inr (by omega)
       clear hw9 c20 cf8 H8 F8 H9 F9 HAT hs5 F5 OWN CP
       go_wp2_with fail
       go_roundw
       case rel=>exact⟨k+1,by omega,by go_num,by rw[←Nat.add_assoc,←HJ.out];go_num,HR4.out⟩
       case measure=>simp[intOf];omega
    ·have hkm2:k=m:=by omega
     subst hkm2
     have c24:wr.cell? ⟨wb,24,none⟩=some (.bool ok):=HST.out.c 24
     have cfz:∀j,wr.frozen? ⟨wb,j,none⟩=false:=fun j=>HST.out.fz j
     have hB:B≤wb:=HST.out.le
     have HR3:Hid (∀wz ok',WtAt B wb (q.on cv rf ok' mn mx) H (C++rowE ps Q (xs.take (i*k+k))) wz→Fr (Eq wb) wr wz→WpAt B wb q ps Q H C w (xs.take ((i+1)*k)) 0 wz):=fun wz ok' h f=>by
      have hst:=HRF.out.2.2.1
      rw[queue_full _ _ _ HM.out.symm (by rw[HRF.out.2.1,HM.out]),←queue_zero ps Q'] at hst
      rw[Nat.succ_mul]
      exact⟨hrel.out.fr.transNew f (fun b e=>.inr (.inl e.symm)),hrel.out.buf.keep f (by omega),cv,rf,ok',mn,mx,Q',h,HRF.out.1,HRF.out.2.1,hst,HRF.out.2.2.2.1,HRF.out.2.2.2.2,HNXT.out⟩
     have HT:Hid (WtAt B wb (q.on cv rf true mn mx) H (C++rowE ps Q (xs.take (i*k+k))) (wr.setCell ⟨wb,24,none⟩ (.bool true))):=(HST.out.set 24 (.bool true) (q.on cv rf true mn mx) rfl rfl rfl).1
     have HR4:Hid (WpAt B wb q ps Q H C w (xs.take ((i+1)*k)) 0 wr):=HR3.out wr ok HST.out (Fr.refl _ _)
     have HR5:Hid (WpAt B wb q ps Q H C w (xs.take ((i+1)*k)) 0 (wr.setCell ⟨wb,24,none⟩ (.bool true))):=HR3.out _ true HT.out ((Fr.refl _ wr).setR _)
     clear HR3 HT
     rcases Nat.eq_zero_or_pos i with h0|h0
     ·subst h0
      go_wp2_with fail
      go_roundw
      case rel=>exact⟨1,by omega,by go_num,by go_num,HR5.out⟩
      case measure=>simp[intOf];omega
     ·have hi0:¬((i:Int)=0):=by omega
      go_wp2_with fail
      go_roundw
      case rel=>exact⟨i+1,by omega,by go_num,by rw[Nat.succ_mul],HR4.out⟩
      case measure=>simp[intOf];omega
  ·have hin:i=n:=by omega
   subst hin
   have HF:Hid (WpPost B wb q (lastQ ps Q xs) H (C++rowE ps Q xs) w (.returned (.tuple #[])) wr):=by
    obtain⟨cv,rf,ok,mn,mx,Q',hst,hrf,hQl,hrun,hcb,hhb,hnx⟩:=hrel.out.st
    have ht:xs.take (i*m)=xs:=List.take_of_length_le (by rw[HXS.out.2.2.1];exact Nat.le_refl _)
    rw[ht] at hst hrun
    refine⟨rfl,cv,rf,ok,mn,mx,hst,?_,hrel.out.fr,fun b e=>e.elim (fun e=>.inl (.inl e)) (fun e=>e.elim (fun e=>hnx b e) (fun e=>.inl (.inr (.inr e))))⟩
    have e:lastQ ps Q xs=Q':=by
     unfold lastQ
     rw[hrun,queue_zero,List.map_snd_zip (by omega)]
    rw[e]
    exact hrf
   clear hrel
   go_wp2_with fail
   go_end0
   exact HF.out
end Go.Proofs.YtnjjgbcmjnfijaaGreatDoor
