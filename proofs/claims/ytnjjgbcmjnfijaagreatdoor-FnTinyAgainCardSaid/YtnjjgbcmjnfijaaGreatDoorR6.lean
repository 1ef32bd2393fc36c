/- The package's reader of tiny bytes: a list of numbers of parts. No condition. -/
import Derived.Test.YtnjjgbcmjnfijaaGreatDoorR2
import Derived.Test.YtnjjgbcmjnfijaaGreatDoorG9
namespace Go.Proofs.YtnjjgbcmjnfijaaGreatDoor
set_option maxRecDepth 100000
set_option maxHeartbeats 4000000
open Go.RowKit
def zin (m:Nat):Array Value:=((List.replicate m (0:Int)).map iv).toArray
theorem zin_made(m:Nat):madeCells (Value.int .i64 0).cells m=zin m:=by
 apply Array.toList_inj.1
 have:=toList_madeCells_one (.int .i64 0) m
 unfold zin
 rw[List.map_replicate]
 exact this
theorem make28(n:Nat)(h:n≤1000000000):∀w,(Instr.makeSlice 28 (.int .i64 n) (.int .i64 n)).run Tryz.prog w=.ok (.slice (some ⟨w.heap.size,0,none⟩) n n) (w.alloc (.cells (zin n) 2)):=by
 obtain⟨j0,hj0,jz0,jz1,jz2⟩:=info_parts info2
 intro w
 have:=run_make (P:=Tryz.prog) w 28 2 j0 (.int .i64 0) Tryz.underlying28 hj0 jz0 .i64 .i64 n n (by omega) (Int.le_refl _) (by rw[jz2];omega) (by omega)
 rw[this,jz1,Nat.mul_one,Int.toNat_natCast,zin_made]
def InRow (g:Nat) (xs:List Int) (N:Nat) (w:World):Prop:=w.heap[g]?=some (.cells ((xs++List.replicate (N - xs.length) 0).map iv).toArray 2 (0,0))
theorem InRow.keep{R:Nat→Prop}{g N:Nat}{xs:List Int}{w w':World}(h:InRow g xs N w)(f:Fr R w w')(hn:¬R g):InRow g xs N w':=(f.block g (zG h).1 hn).trans h
theorem InRow.snoc{g N:Nat}{xs:List Int}{w:World}(h:InRow g xs N w)(hN:xs.length < N)(x:Int):InRow g (xs++[x]) N (w.setCell ⟨g,xs.length,none⟩ (.int .i64 x)):=by
 unfold InRow
 rw[Lib.heap_setCell_same h]
 congr 2
 obtain⟨r,hr⟩:∃r,N - xs.length=r+1:=⟨N - xs.length - 1,by omega⟩
 have e2:N - (xs++[x]).length=r:=by simp;omega
 rw[hr,e2]
 apply Array.toList_inj.1
 simp[List.replicate_succ,iv]
theorem InRow.cell{g N:Nat}{xs:List Int}{w:World}(h:InRow g xs N w)(i:Nat)(hi:i < N)(hx:xs.length≤N):∃x,w.cell? ⟨g,i,none⟩=some (.int .i64 x):=by
 rw[zC h]
 obtain⟨ys,hys⟩:∃ys,ys=xs++List.replicate (N - xs.length) 0:=⟨_,rfl⟩
 have hl:i < ys.length:=by rw[hys];simp;omega
 rw[←hys]
 exact⟨ys[i],by simp[hl,iv]⟩
def IlPost (pb tb tf tc:Nat) (T:List UInt8) (p:Pr) (is:List Int) (l':List UInt8) (w:World) (e:Ending) (w':World):Prop :=
 e=.returned .nilIface∧∃(q:Nat) (v:Value),Hid (p.pos≤q∧q≤T.length∧l'=T.drop q∧PrAt pb tb tf tc T { p with pos:=q,iv:=v } w'∧Fr (Eq pb) w w'∧(p.ix=false→v=p.iv∧is=[])∧(p.ix=true→∃g,w.heap.size≤g∧v=.slice (some ⟨g,0,none⟩) is.length is.length∧w'.heap[g]?=some (.cells (is.map iv).toArray 2 (0,0))))
structure IlAt (pb tb tf tc:Nat) (T:List UInt8) (p:Pr) (is:List Int) (l':List UInt8) (w:World) (G n t:Nat) (wr:World):Prop where
 fr:Fr (Eq pb) w wr
 st:∃(q:Nat) (dn rest:List Int),p.pos≤q∧q≤T.length∧PrAt pb tb tf tc T { p with pos:=q,iv:=.slice (some ⟨G,0,none⟩) n n } wr∧is=dn++rest∧dn.length=t∧RC (T.drop q) rest l'∧InRow G dn n wr
theorem ids242{pb tb tf tc:Nat}{T:List UInt8}{p:Pr}{w:World}(h:PrAt pb tb tf tc T p w)(htw:tb < w.heap.size){n:Nat}(hn:n≤4096){is:List Int}{l':List UInt8}(hr:IdsP p.ix n (T.drop p.pos) is l'):
  Calls Tryz.prog 242 #[.pointer (some ⟨pb,0,none⟩),.int .i64 n] w (IlPost pb tb tf tc T p is l' w):=by
 have c16:=h.c16
 cases hx:p.ix with
 | false =>
  rw[hx] at c16 hr
  have HF:Hid (IlPost pb tb tf tc T p is l' w (.returned .nilIface) w):=by
   unfold IdsP at hr
   rw[if_neg (by decide)] at hr
   exact⟨rfl,p.pos,p.iv,Nat.le_refl _,h.pos,hr.2,h,Fr.refl _ _,fun _=>⟨rfl,hr.1⟩,fun e=>by rw[hx] at e;cases e⟩
  clear h hr hx
  go_enter Tryz.func242,Tryz.ntmps242
  go_wp2_with fail
  go_ret
  exact HF.out
 | true =>
  rw[hx] at c16 hr
  unfold IdsP at hr
  rw[if_pos rfl] at hr
  obtain⟨hrc,hil⟩:=hr
  have hpb:=h.lt
  have hmk:=make28 n (by omega)
  obtain⟨G,hG⟩:∃G,G=w.heap.size:=⟨_,rfl⟩
  obtain⟨w0,hw0⟩:∃w0,w0=(w.setCell ⟨pb,20,none⟩ (.slice (some ⟨G,0,none⟩) n n)).alloc (.cells (zin n) 2):=⟨_,rfl⟩
  have hp0:=(h.set 20 (.slice (some ⟨G,0,none⟩) n n) { p with iv:=.slice (some ⟨G,0,none⟩) n n } rfl h.pos).1.keep ((Fr.refl _ _).alloc (.cells (zin n) 2))
  rw[←hw0] at hp0
  have f0:Fr (Eq pb) w w0:=by rw[hw0];exact ((Fr.refl _ w).setR _).alloc _
  have g0:InRow G [] n w0:=by
   have h1:=zN (w.setCell ⟨pb,20,none⟩ (.slice (some ⟨G,0,none⟩) n n)) (.cells (zin n) 2)
   have e:(w.setCell ⟨pb,20,none⟩ (.slice (some ⟨G,0,none⟩) n n)).heap.size=G:=by rw[hG];simp[World.setCell]
   rw[e,←hw0] at h1
   exact h1
  have P0:Hid (IlAt pb tb tf tc T p is l' w G n 0 w0):=⟨f0,p.pos,[],is,Nat.le_refl _,h.pos,hp0,rfl,rfl,hrc,g0⟩
  have HW0:=zH hw0
  have HG:=zH hG
  have HX:=zH hx
  have HIL:=zH hil
  have c20:∀A,(w.alloc A).cell? ⟨pb,20,none⟩=some p.iv:=fun A=>(h.keep ((Fr.refl _ w).alloc A)).c20
  have f20:∀A,(w.alloc A).frozen? ⟨pb,20,none⟩=false:=fun A=>(h.keep ((Fr.refl _ w).alloc A)).fz 20
  have hnI:(n:Int)≤4096:=by omega
  clear hw0 hp0 f0 g0 h hrc hil hx hG
  go_enter Tryz.func242,Tryz.ntmps242
  go_upto_region 4 with fail
  rw[←HG.out,←HW0.out]
  clear c16 c20 f20 hmk
  go_upto_region 5 with fail
  go_loopw [5] (fun iv wr=>∃(i:Nat),i≤n∧iv=.int .i64 (i:Int)∧Hid (IlAt pb tb tf tc T p is l' w G n i wr)) (fun iv _=>n - (intOf iv).toNat)
  case atStart=>exact⟨0,Nat.zero_le _,rfl,P0.out⟩
  case round =>
   obtain⟨i,hi,rfl,hrel⟩:=hrel
   obtain⟨q,dn,rest,hq1,hq2,hpr,his,hdn,hrest,hrow⟩:=hrel.out.st
   have FR:=zH hrel.out.fr
   by_cases hlt:i < n
   ·obtain⟨d,rest',hrs⟩:∃d rest',rest=d :: rest':=by
     cases rest with
     | nil =>
      exfalso
      have h3:=HIL.out
      rw[his] at h3
      simp at h3
      omega
     | cons d rest'=>exact⟨d,rest',rfl⟩
    subst hrs
    obtain⟨z,l1,hu,hz,hdz,hrc⟩:=hrest.step
    subst hdz
    have C239:=zH (svar239 (p:={ p with pos:=q,iv:=.slice (some ⟨G,0,none⟩) n n }) hpr hu)
    obtain⟨u,hu2⟩:∃u,u=unz z:=⟨_,rfl⟩
    rw[←hu2] at C239 his
    have HRO:=zH hrow
    have HDN:=zH hdn
    have HIS:=zH his
    have HRC:=zH hrc
    have HQ1:=zH hq1
    have hiI:(i:Int) < (n:Int):=by omega
    clear hrel hrow hdn his hrc hq1 hq2 hpr hrest hu hz hu2
    go_upto_region 8 with (go_at_call 239;refine C239.out.mono ?_;rintro e w2 ⟨rfl,q2,h2⟩)
    have c20:=h2.out.2.2.2.1.c20
    have hGne:¬pb=G:=by rw[HG.out];omega
    have hro2:=HRO.out.keep h2.out.2.2.2.2 hGne
    obtain⟨y0,cG⟩:=hro2.cell i hlt (by have:=HDN.out;omega)
    have fG:w2.frozen? ⟨G,i,none⟩=false:=zF hro2 i
    have HRO2:=zH hro2
    have HGN:=zH hGne
    clear hro2 hGne
    have HR:Hid (IlAt pb tb tf tc T p is l' w G n (i+1) (w2.setCell ⟨G,i,none⟩ (.int .i64 u))):=by
     have f3:Fr (Eq G) w2 (w2.setCell ⟨G,i,none⟩ (.int .i64 u)):=(Fr.refl _ w2).setR _
     have hl1:=HRC.out
     rw[h2.out.2.2.1] at hl1
     have e1:=HQ1.out
     have e2:q < q2:=h2.out.1
     have hgo:=HG.out
     have hs:=HRO2.out.snoc (by rw[HDN.out];exact hlt) u
     rw[HDN.out] at hs
     exact⟨(FR.out.trans h2.out.2.2.2.2).transNew f3 (fun b e=>.inl (by omega)),q2,dn++[u],rest',by omega,h2.out.2.1,h2.out.2.2.2.1.fr f3 (by omega) (by omega),by rw[HIS.out];simp,by rw[List.length_append,HDN.out];rfl,hl1,hs⟩
    go_wp2_with fail
    go_roundw
    case rel=>exact⟨i+1,by omega,by go_num,HR.out⟩
    case measure=>simp[intOf];omega
   ·have hin:i=n:=by omega
    subst hin
    have HF:Hid (IlPost pb tb tf tc T p is l' w (.returned .nilIface) wr):=by
     have hr0:rest=[]:=by
      have h3:=HIL.out
      rw[his] at h3
      simp at h3
      exact List.eq_nil_of_length_eq_zero (by omega)
     subst hr0
     rw[List.append_nil] at his
     subst his
     refine⟨rfl,q,_,hq1,hq2,?_,hpr,FR.out,(fun e=>by rw[HX.out] at e;cases e),fun _=>⟨G,by rw[HG.out];exact Nat.le_refl _,by rw[hdn],?_⟩⟩
     ·cases hrest;rfl
     ·have h1:wr.heap[G]?=some (.cells ((is++List.replicate (i - is.length) 0).map iv).toArray 2 (0,0)):=hrow
      rw[h1,hdn,Nat.sub_self]
      simp
    clear hrel
    go_wp2_with fail
    go_ret
    exact HF.out
end Go.Proofs.YtnjjgbcmjnfijaaGreatDoor
