/- The package's writer of tiny bytes: MarshalTWKB. No condition. -/
import Derived.Test.YtnjjgbcmjnfijaaGreatDoorWs
import Derived.Test.YtnjjgbcmjnfijaaGreatDoorWt
import Derived.Test.YtnjjgbcmjnfijaaGreatDoorWr
import Derived.Deep.RegionHeld3
namespace Go.Proofs.YtnjjgbcmjnfijaaGreatDoor
set_option maxRecDepth 100000
set_option maxHeartbeats 4000000
open Go.RowKit
def oc (s:Int × Int × Bool):Array Value:=#[.int .i64 s.1,.int .i64 s.2.1,.bool false,.bool false,.bool s.2.2,.slice none 0 0]
def OpStep (g:Nat) (st:Nat→Int × Int × Bool) (n:Nat) (w:World):Prop :=
 ∀i,i < n→(∃(a:Nat) (z:Int),w.cell? ⟨g,i,none⟩=some (.func (.func 173) #[] #[.pointer (some ⟨a,0,none⟩)])∧w.cell? ⟨a,0,none⟩=some (.int .i64 z)∧st (i+1)=(z,(st i).2)) ∨
  (∃(a:Nat) (z:Int),w.cell? ⟨g,i,none⟩=some (.func (.func 174) #[] #[.pointer (some ⟨a,0,none⟩)])∧w.cell? ⟨a,0,none⟩=some (.int .i64 z)∧st (i+1)=((st i).1,z,(st i).2.2)) ∨
  (w.cell? ⟨g,i,none⟩=some (.func (.func 177) #[] #[])∧st (i+1)=((st i).1,(st i).2.1,true))
structure OpL (w:World) (sb:Nat) (s:Int × Int × Bool) (wr:World):Prop where
 blk:wr.heap[sb]?=some (.cells (oc s) 147 (0,0))
 fr:ZF w wr
theorem OpL.c{w wr:World}{sb:Nat}{s:Int × Int × Bool}(h:OpL w sb s wr):wr.cell? ⟨sb,0,none⟩=some (.int .i64 s.1)∧wr.cell? ⟨sb,1,none⟩=some (.int .i64 s.2.1)∧wr.cell? ⟨sb,2,none⟩=some (.bool false)∧wr.cell? ⟨sb,3,none⟩=some (.bool false)∧wr.cell? ⟨sb,4,none⟩=some (.bool s.2.2)∧wr.cell? ⟨sb,5,none⟩=some (.slice none 0 0)∧∀k,wr.frozen? ⟨sb,k,none⟩=false:=by
 refine⟨?_,?_,?_,?_,?_,?_,fun k=>zF h.blk k⟩<;>(rw[zC h.blk];rfl)
theorem OpL.set{w wr:World}{sb:Nat}{s s':Int × Int × Bool}(h:OpL w sb s wr)(hB:w.heap.size≤sb)(i:Nat)(v:Value)(e:(oc s).setIfInBounds i v=oc s'):OpL w sb s' (wr.setCell ⟨sb,i,none⟩ v) :=
 ⟨by rw[←e];exact Lib.heap_setCell_same (i:=i) h.blk v,h.fr.setNew hB _⟩
theorem bodyE_pos{k:Nat}{ps Q:List Int}{s:Sh}(h:SOk k ps s)(hp:0 < ps.length)(hQ:Q.length=ps.length):0 < (bodyE k ps Q s).length:=by
 have app:∀(n:Nat) (l:List UInt8),0 < (Lib.uvarint n++l).length:=fun n l=>by
  rw[List.length_append]
  have:=Lib.uvarint_pos n
  omega
 unfold SOk at h
 split at h
 ·next xs =>
  have h1:=h.1.len
  show 0 < (encD (diffs (ps.zip Q) xs)).length
  have hz:0 < (ps.zip Q).length:=by rw[List.length_zip,hQ];omega
  have hl:=diffs_length xs _ hz
  cases hd:diffs (ps.zip Q) xs with
  | nil=>rw[hd] at hl;simp at hl;omega
  | cons d ds=>rw[encD_cons];exact app _ _
 all_goals first|exact app _ _|exact h.elim
def MtPost (T:List UInt8) (w:World) (e:Ending) (w':World):Prop :=
 ∃g c:Nat,e=.returned (.tuple #[.slice (some ⟨g,0,none⟩) T.length c,.nilIface])∧Hid (T.length≤c∧w.heap.size≤g∧g < w'.heap.size∧TxAt g 0 T w'∧ZF w w')
theorem GmE.mono{k tid d:Nat}{s:Sh}{P Q:Nat→Prop}{w:World}{h:Nat}(hg:GmE k tid d s P w h)(hq:∀b,P b→b < w.heap.size→Q b):GmE k tid d s Q w h:=by
 obtain⟨h1,cs,h2,h3⟩:=hg
 exact⟨hq h h1 (zG h2).1,cs,h2,h3.mono hq⟩
theorem mt28{k dim p z m hh:Nat}(hk:1≤k∧k≤6)(hd:dim≤3)(hp:p≤7)(hz:z≤7)(hm:m≤7){s:Sh}{w:World}(ht:TenTab w)(hg:GmE k (kId k) dim s (fun b=>b < w.heap.size) w hh)(hs:SOk k (prs dim p z m) s)
  (hl:(bodyE k (prs dim p z m) ((prs dim p z m).map fun _=>0) s).length≤10000000000) {g n c:Nat}{st:Nat→Int × Int × Bool} (hn:n≤10) (hop:OpStep g st n w) (h0:st 0=((p:Int),(p:Int),false)) (hst:st n=((z:Int),(m:Int),true)) :
  Calls Tryz.prog 28 #[.agg #[.int .i64 k,.iface (kTy k) (.pointer (some ⟨hh,0,none⟩))],.int .i64 p,.slice (some ⟨g,0,none⟩) n c] w (MtPost (docE k dim p z m (prs dim p z m) s) w):=by
 obtain⟨T,hT⟩:∃T,T=docE k dim p z m (prs dim p z m) s:=⟨_,rfl⟩
 obtain⟨ty,hty⟩:∃ty,ty=kTy k:=⟨_,rfl⟩
 obtain⟨K,hK⟩:∃K:Int,K=(k:Int):=⟨_,rfl⟩
 obtain⟨z1,hz1⟩:∃z1,z1=(dim % 2 == 1):=⟨_,rfl⟩
 obtain⟨z2,hz2⟩:∃z2,z2=(dim / 2 % 2 == 1):=⟨_,rfl⟩
 have C69:Hid (∀w1,ZF w w1→Calls Tryz.prog 69 #[.agg #[.int .i64 K,.iface ty (.pointer (some ⟨hh,0,none⟩))]] w1 fun e w'=>e=.returned (.int .u8 dim)∧ZF w1 w'):=fun w1 f=>by
  rw[hK,hty]
  exact ct69 hk (hg.kept (fun b _ hl=>f.block b hl (fun h=>h)))
 have C70:Hid (∀w,Calls Tryz.prog 70 #[.int .u8 dim] w fun e w'=>e=.returned (.bool z1)∧w=w'):=fun w=>by rw[hz1];exact (ac70 dim hd w).mono (fun _ _ h=>⟨h.1,h.2.symm⟩)
 have C71:Hid (∀w,Calls Tryz.prog 71 #[.int .u8 dim] w fun e w'=>e=.returned (.bool z2)∧w=w'):=fun w=>by rw[hz2];exact (ac71 dim hd w).mono (fun _ _ h=>⟨h.1,h.2.symm⟩)
 obtain⟨Z,hZ⟩:∃Z:Int,Z=((if z1=true then z else 0:Nat):Int):=⟨_,rfl⟩
 obtain⟨M,hM⟩:∃M:Int,M=((if z2=true then m else 0:Nat):Int):=⟨_,rfl⟩
 have hZ8:0≤Z∧Z≤7:=by rw[hZ];split<;>omega
 have hM8:0≤M∧M≤7:=by rw[hM];split<;>omega
 have C73:Hid (∀w1,ZF w w1→Calls Tryz.prog 73 #[.bool z1,.bool z2,.int .i64 p,.int .i64 Z,.int .i64 M,.bool false,.bool false,.bool true,.slice none 0 0] w1 (NvPost dim p z m w1)):=fun w1 f=>by
  rw[hZ,hM,hz1,hz2]
  exact nw73 dim p z m hd hp hz hm w1 (ht.fr f (fun h=>h) (fun h=>h))
 have hps:0 < (prs dim p z m).length:=by simp[prs]
 have hQ0:QOk (prs dim p z m) ((prs dim p z m).map fun _=>0):=⟨by simp,fun q hq=>by simp at hq;omega⟩
 have C74:Hid (∀w1 wb w2 e,ZF w w1→NvPost dim p z m w1 e w2→e=.returned (.pointer (some ⟨wb,0,none⟩))→Calls Tryz.prog 74 #[.pointer (some ⟨wb,0,none⟩),.agg #[.int .i64 K,.iface ty (.pointer (some ⟨hh,0,none⟩))]] w2 fun e w3=>e=.returned .nilIface∧ZF w w3∧Calls Tryz.prog 76 #[.pointer (some ⟨wb,0,none⟩)] w3 fun e w'=>∃g c:Nat,e=.returned (.slice (some ⟨g,0,none⟩) T.length c)∧Hid (T.length≤c∧w.heap.size≤g∧g < w'.heap.size∧TxAt g 0 T w'∧ZF w w')):=by
  rintro w1 wb w2 e f ⟨wb',q,z',m',x,rfl,hq⟩ he
  injection he with he
  injection he with he
  injection he with he
  injection he with he
  subst he
  obtain⟨q1,q2,q3,q4,q5⟩:=hq.out
  rw[hK,hty]
  have hgk:GmE k (kId k) dim s (fun b=>b < w1.heap.size) w2 hh:=(hg.kept (fun b _ hl=>(f.trans q2).block b hl (fun h=>h))).mono (fun b hb _=>by have:=f.size;omega)
  refine (wg74 q1 hk q3 q4 hQ0 (by simp) hgk hs (by simpa using (by omega:(bodyE k (prs dim p z m) ((prs dim p z m).map fun _=>0) s).length≤10000000000000))).mono ?_
  rintro e w3 ⟨rfl,q',hw⟩
  have fB:=hw.out.1
  have f3:ZF w w3:=(f.trans q2).transNew (hw.out.2.fr) (fun b hb=>.inl (by have h1:=(q1.own_ge b hb).1;have:=f.size;omega))
  refine⟨rfl,f3,?_⟩
  rw[List.nil_append] at fB
  have hb:=bodyE_pos hs hps (by simp) (Q:=(prs dim p z m).map fun _=>0)
  refine (form76 fB (by unfold hdE;split<;>simp) (by omega) (by unfold hdE;simp) hb).mono ?_
  rintro e w4 ⟨g,n,c,rfl,h4⟩
  obtain⟨a1,a2,a3,a4,a5⟩:=h4.out
  rw[q5,←hT] at a1 a4
  subst a1
  have hpos:0 < T.length:=by rw[hT,←q5,List.length_append];omega
  have hg4:=World.block_lt_of_cell? w4 _ (a4 0 hpos)
  exact⟨g,c,rfl,a2,by have:=f3.size;omega,hg4,a4,f3.trans a5⟩
 rw[←hT,←hty,←hK]
 have HOP:=zH hop
 have HST:=zH hst
 obtain⟨wg,hwg⟩:∃wg,wg=w.alloc (.cells #[.int .i64 K,.iface ty (.pointer (some ⟨hh,0,none⟩))] 56):=⟨_,rfl⟩
 have bg:=zN w (.cells #[.int .i64 K,.iface ty (.pointer (some ⟨hh,0,none⟩))] 56)
 rw[←hwg] at bg
 have fg:ZF w wg:=by rw[hwg];exact (Fr.refl _ w).alloc _
 obtain⟨wz,hwz⟩:∃wz,wz=wg.alloc (.cells #[.int .i64 0,.int .i64 0,.bool false,.bool false,.bool false,.slice none 0 0] 147):=⟨_,rfl⟩
 have LZ:Hid (OpL wg wg.heap.size (0,0,false) wz):=by
  show OpL _ _ _ _
  rw[hwz]
  exact⟨zN wg _,(Fr.refl _ wg).alloc _⟩
 obtain⟨w0,hw0⟩:∃w0,w0=(wz.setCell ⟨wg.heap.size,0,none⟩ (.int .i64 p)).setCell ⟨wg.heap.size,1,none⟩ (.int .i64 p):=⟨_,rfl⟩
 have L0:Hid (OpL wg wg.heap.size (st 0) w0):=by
  rw[h0]
  show OpL _ _ _ _
  have h2:=LZ.out.set (Nat.le_refl _) 0 (.int .i64 p) (s':=((p:Int),0,false)) rfl
  have h3:=h2.set (Nat.le_refl _) 1 (.int .i64 p) (s':=((p:Int),(p:Int),false)) rfl
  rw[hw0]
  exact h3
 have HWZ:=zH hwz
 have BG:=zH bg
 have FG:=zH fg
 have HWG:=zH hwg
 have HW0:=zH hw0
 have GL:Hid (w.heap.size < wg.heap.size):=(zG bg).1
 have HZ:=zH hZ
 have HM:=zH hM
 have e1:decide ((p:Int) < -8)=false:=by simp<;>omega
 have e2:decide ((7:Int) < (p:Int))=false:=by simp;omega
 have e3:decide (Z < 0)=false:=by simp;omega
 have e4:decide ((7:Int) < Z)=false:=by simp;omega
 have e5:decide (M < 0)=false:=by simp;omega
 have e6:decide ((7:Int) < M)=false:=by simp;omega
 clear hT hty hK hZ hM hZ8 hM8 hz1 hz2 hg hs hl ht hop hst h0 hwg bg hw0 hwz fg hk hd hp hz hm hQ0 hps
 go_enter Tryz.func28,Tryz.ntmps28
 go_upto_region 1 with fail
 rw[←HWG.out]
 go_upto_region 2 with fail
 rw[←HWZ.out]
 obtain⟨d0,d1,_,_,_,_,fz⟩:=LZ.out.c
 go_upto_region 4 with fail
 rw[←HW0.out]
 clear d0 d1 fz
 go_upto_region 5 with fail
 go_loopw [22] (fun iv wr=>∃(i:Nat),iv=.int .i64 (i:Int)∧i≤n∧Hid (OpL wg wg.heap.size (st i) wr)) (fun iv _=>n - (intOf iv).toNat)
 case atStart=>exact⟨0,rfl,Nat.zero_le _,L0.out⟩
 case round =>
  obtain⟨i,rfl,hi,hrel⟩:=hrel
  by_cases hlt:i < n
  ·obtain⟨d0,d1,_,_,d4,_,fz⟩:=hrel.out.c
   have FR:=zH (FG.out.trans hrel.out.fr)
   rcases HOP.out i hlt with ⟨a,v,c1,c2,hst⟩|⟨a,v,c1,c2,hst⟩|⟨c1,hst⟩
   ·have c1':=FR.out.cell c1 (fun h=>h)
    have c2':=FR.out.cell c2 (fun h=>h)
    have HS:=zH hst
    have CC:=zH (cl173 a wg.heap.size v wr _ c2' d0 (fz 0))
    clear c1 c2 hst c2' d0 d1 d4 fz
    go_wp2_with (go_at_call 173;refine CC.out.mono ?_;rintro e w2 ⟨rfl,rfl⟩)
    have HR:Hid (OpL wg wg.heap.size (st (i+1)) (wr.setCell ⟨wg.heap.size,0,none⟩ (.int .i64 v))):=by
     rw[HS.out]
     exact hrel.out.set (Nat.le_refl _) 0 _ rfl
    clear hrel
    go_roundw
    case rel=>exact⟨i+1,by go_num,by omega,HR⟩
    case measure=>simp[intOf];omega
   ·have c1':=FR.out.cell c1 (fun h=>h)
    have c2':=FR.out.cell c2 (fun h=>h)
    have HS:=zH hst
    have CC:=zH (cl174 a wg.heap.size v wr _ c2' d1 (fz 1))
    clear c1 c2 hst c2' d0 d1 d4 fz
    go_wp2_with (go_at_call 174;refine CC.out.mono ?_;rintro e w2 ⟨rfl,rfl⟩)
    have HR:Hid (OpL wg wg.heap.size (st (i+1)) (wr.setCell ⟨wg.heap.size,1,none⟩ (.int .i64 v))):=by
     rw[HS.out]
     exact hrel.out.set (Nat.le_refl _) 1 _ rfl
    clear hrel
    go_roundw
    case rel=>exact⟨i+1,by go_num,by omega,HR⟩
    case measure=>simp[intOf];omega
   ·have c1':=FR.out.cell c1 (fun h=>h)
    have HS:=zH hst
    have CC:=zH (cl177 wg.heap.size wr _ d4 (fz 4))
    clear c1 hst d0 d1 d4 fz
    go_wp2_with (go_at_call 177;refine CC.out.mono ?_;rintro e w2 ⟨rfl,rfl⟩)
    have HR:Hid (OpL wg wg.heap.size (st (i+1)) (wr.setCell ⟨wg.heap.size,4,none⟩ (.bool true))):=by
     rw[HS.out]
     exact hrel.out.set (Nat.le_refl _) 4 _ rfl
    clear hrel
    go_roundw
    case rel=>exact⟨i+1,by go_num,by omega,HR⟩
    case measure=>simp[intOf];omega
  ·have L1:Hid (OpL wg wg.heap.size ((z:Int),(m:Int),true) wr):=by
    have hin:i=n:=by omega
    rw[←HST.out,←hin]
    exact hrel.out
   clear hrel
   have FRW:=zH (FG.out.trans L1.out.fr)
   obtain⟨g0,g1,_⟩:=lm_cells ((L1.out.fr.block w.heap.size GL.out (fun h=>h)).trans BG.out)
   go_upto_region 10 with (go_at_call 69;(with_reducible refine (C69.out _ FRW.out).mono ?_);rintro e w1 ⟨rfl,f1⟩;have L2:Hid (OpL wg wg.heap.size ((z:Int),(m:Int),true) w1):=⟨(f1.block _ (zG L1.out.blk).1 (fun h=>h)).trans L1.out.blk,L1.out.fr.trans f1⟩;clear f1)
   clear g0 g1
   go_upto_region 12 with (first|(go_at_call 70;(with_reducible refine (C70.out _).mono ?_);rintro e w2 ⟨rfl,rfl⟩)|(go_at_call 71;(with_reducible refine (C71.out _).mono ?_);rintro e w2 ⟨rfl,rfl⟩))
   obtain⟨d0,d1,d2,d3,d4,d5,fz⟩:=L2.out.c
   cases z1<;>cases z2
   ·go_upto_region 16 with fail
    have L3:Hid (OpL wg wg.heap.size (Z,M,true) ((w1.setCell ⟨wg.heap.size,0,none⟩ (.int .i64 0)).setCell ⟨wg.heap.size,1,none⟩ (.int .i64 0))):=by
     have e7:Z=0:=HZ.out
     have e8:M=0:=HM.out
     rw[e7,e8]
     exact ((L2.out.set (Nat.le_refl _) 0 (.int .i64 0) (s':=(0,(m:Int),true)) rfl).set (Nat.le_refl _) 1 (.int .i64 0) (s':=(0,0,true)) rfl)
    generalize hw3:((w1.setCell ⟨wg.heap.size,0,none⟩ (.int .i64 0)).setCell ⟨wg.heap.size,1,none⟩ (.int .i64 0))=w3 at L3 ⊢
    clear hw3
    clear d0 d1 d2 d3 d4 d5 fz L2
    obtain⟨d0,d1,d2,d3,d4,d5,_⟩:=L3.out.c
    have F3:=zH (FG.out.trans L3.out.fr)
    go_upto_region 22 with fail
    go_upto_region 23 with (go_at_call 73;(with_reducible refine (C73.out _ F3.out).mono ?_);rintro e w4 hp;obtain⟨wb,he⟩:∃wb,e=.returned (.pointer (some ⟨wb,0,none⟩)):=(by obtain⟨wb,_,_,_,_,h,_⟩:=hp;exact⟨wb,h⟩);have C5:=zH (C74.out _ wb _ _ F3.out hp he);have F4:Hid (ZF wg w4):=(by obtain⟨_,_,_,_,_,_,h⟩:=hp;exact L3.out.fr.trans h.out.2.1);subst he;clear hp)
    obtain⟨g0,g1,_⟩:=lm_cells ((F4.out.block w.heap.size GL.out (fun h=>h)).trans BG.out)
    clear d0 d1 d2 d3 d4 d5
    go_upto_region 24 with (go_at_call 74;(with_reducible refine C5.out.mono ?_);rintro e w5 ⟨rfl,f5,c6⟩;have C6:=zH c6;clear c6 f5)
    go_wp2_with (go_at_call 76;(with_reducible refine C6.out.mono ?_);rintro e w6 ⟨gb,cb,rfl,h6⟩)
    exact bodyPost_ret (v:=.tuple #[.slice (some ⟨gb,0,none⟩) T.length cb,.nilIface]) (by simp[results,Tryz.f28,go_sem]) rfl ⟨gb,cb,rfl,h6⟩
   ·go_upto_region 16 with fail
    have L3:Hid (OpL wg wg.heap.size (Z,M,true) (w1.setCell ⟨wg.heap.size,0,none⟩ (.int .i64 0))):=by
     have e7:Z=0:=HZ.out
     have e8:M=(m:Int):=HM.out
     rw[e7,e8]
     exact (L2.out.set (Nat.le_refl _) 0 (.int .i64 0) (s':=(0,(m:Int),true)) rfl)
    generalize hw3:(w1.setCell ⟨wg.heap.size,0,none⟩ (.int .i64 0))=w3 at L3 ⊢
    clear hw3
    clear d0 d1 d2 d3 d4 d5 fz L2
    obtain⟨d0,d1,d2,d3,d4,d5,_⟩:=L3.out.c
    have F3:=zH (FG.out.trans L3.out.fr)
    go_upto_region 22 with fail
    go_upto_region 23 with (go_at_call 73;(with_reducible refine (C73.out _ F3.out).mono ?_);rintro e w4 hp;obtain⟨wb,he⟩:∃wb,e=.returned (.pointer (some ⟨wb,0,none⟩)):=(by obtain⟨wb,_,_,_,_,h,_⟩:=hp;exact⟨wb,h⟩);have C5:=zH (C74.out _ wb _ _ F3.out hp he);have F4:Hid (ZF wg w4):=(by obtain⟨_,_,_,_,_,_,h⟩:=hp;exact L3.out.fr.trans h.out.2.1);subst he;clear hp)
    obtain⟨g0,g1,_⟩:=lm_cells ((F4.out.block w.heap.size GL.out (fun h=>h)).trans BG.out)
    clear d0 d1 d2 d3 d4 d5
    go_upto_region 24 with (go_at_call 74;(with_reducible refine C5.out.mono ?_);rintro e w5 ⟨rfl,f5,c6⟩;have C6:=zH c6;clear c6 f5)
    go_wp2_with (go_at_call 76;(with_reducible refine C6.out.mono ?_);rintro e w6 ⟨gb,cb,rfl,h6⟩)
    exact bodyPost_ret (v:=.tuple #[.slice (some ⟨gb,0,none⟩) T.length cb,.nilIface]) (by simp[results,Tryz.f28,go_sem]) rfl ⟨gb,cb,rfl,h6⟩
   ·go_upto_region 16 with fail
    have L3:Hid (OpL wg wg.heap.size (Z,M,true) (w1.setCell ⟨wg.heap.size,1,none⟩ (.int .i64 0))):=by
     have e7:Z=(z:Int):=HZ.out
     have e8:M=0:=HM.out
     rw[e7,e8]
     exact (L2.out.set (Nat.le_refl _) 1 (.int .i64 0) (s':=((z:Int),0,true)) rfl)
    generalize hw3:(w1.setCell ⟨wg.heap.size,1,none⟩ (.int .i64 0))=w3 at L3 ⊢
    clear hw3
    clear d0 d1 d2 d3 d4 d5 fz L2
    obtain⟨d0,d1,d2,d3,d4,d5,_⟩:=L3.out.c
    have F3:=zH (FG.out.trans L3.out.fr)
    go_upto_region 22 with fail
    go_upto_region 23 with (go_at_call 73;(with_reducible refine (C73.out _ F3.out).mono ?_);rintro e w4 hp;obtain⟨wb,he⟩:∃wb,e=.returned (.pointer (some ⟨wb,0,none⟩)):=(by obtain⟨wb,_,_,_,_,h,_⟩:=hp;exact⟨wb,h⟩);have C5:=zH (C74.out _ wb _ _ F3.out hp he);have F4:Hid (ZF wg w4):=(by obtain⟨_,_,_,_,_,_,h⟩:=hp;exact L3.out.fr.trans h.out.2.1);subst he;clear hp)
    obtain⟨g0,g1,_⟩:=lm_cells ((F4.out.block w.heap.size GL.out (fun h=>h)).trans BG.out)
    clear d0 d1 d2 d3 d4 d5
    go_upto_region 24 with (go_at_call 74;(with_reducible refine C5.out.mono ?_);rintro e w5 ⟨rfl,f5,c6⟩;have C6:=zH c6;clear c6 f5)
    go_wp2_with (go_at_call 76;(with_reducible refine C6.out.mono ?_);rintro e w6 ⟨gb,cb,rfl,h6⟩)
    exact bodyPost_ret (v:=.tuple #[.slice (some ⟨gb,0,none⟩) T.length cb,.nilIface]) (by simp[results,Tryz.f28,go_sem]) rfl ⟨gb,cb,rfl,h6⟩
   ·go_upto_region 16 with fail
    have L3:Hid (OpL wg wg.heap.size (Z,M,true) w1):=by
     have e7:Z=(z:Int):=HZ.out
     have e8:M=(m:Int):=HM.out
     rw[e7,e8]
     exact L2.out
    obtain⟨w3,hw3⟩:∃w3,w3=w1:=⟨_,rfl⟩
    rw[←hw3] at L3 ⊢
    clear hw3
    clear d0 d1 d2 d3 d4 d5 fz L2
    obtain⟨d0,d1,d2,d3,d4,d5,_⟩:=L3.out.c
    have F3:=zH (FG.out.trans L3.out.fr)
    go_upto_region 22 with fail
    go_upto_region 23 with (go_at_call 73;(with_reducible refine (C73.out _ F3.out).mono ?_);rintro e w4 hp;obtain⟨wb,he⟩:∃wb,e=.returned (.pointer (some ⟨wb,0,none⟩)):=(by obtain⟨wb,_,_,_,_,h,_⟩:=hp;exact⟨wb,h⟩);have C5:=zH (C74.out _ wb _ _ F3.out hp he);have F4:Hid (ZF wg w4):=(by obtain⟨_,_,_,_,_,_,h⟩:=hp;exact L3.out.fr.trans h.out.2.1);subst he;clear hp)
    obtain⟨g0,g1,_⟩:=lm_cells ((F4.out.block w.heap.size GL.out (fun h=>h)).trans BG.out)
    clear d0 d1 d2 d3 d4 d5
    go_upto_region 24 with (go_at_call 74;(with_reducible refine C5.out.mono ?_);rintro e w5 ⟨rfl,f5,c6⟩;have C6:=zH c6;clear c6 f5)
    go_wp2_with (go_at_call 76;(with_reducible refine C6.out.mono ?_);rintro e w6 ⟨gb,cb,rfl,h6⟩)
    exact bodyPost_ret (v:=.tuple #[.slice (some ⟨gb,0,none⟩) T.length cb,.nilIface]) (by simp[results,Tryz.f28,go_sem]) rfl ⟨gb,cb,rfl,h6⟩
open Go.RowKit
def OtPost (p z m:Int) (w:World) (e:Ending) (w':World):Prop :=
 ∃g n c:Nat,e=.returned (.slice (some ⟨g,0,none⟩) n c)∧Hid (n≤10∧n≤c∧ZF w w'∧∃st,OpStep g st n w'∧st 0=(p,p,false)∧st n=(z,m,true))
theorem ot30_0(p z m:Int)(w:World):Calls Tryz.prog 30 #[opV p false z m] w (OtPost p p p w) :=
 (opt30_0 p z m w).mono (fun e w' h=>by
  obtain⟨g,c,rfl,h⟩:=h
  obtain⟨h1,h2,h3⟩:=h.out
  refine⟨g,1,c,rfl,by decide,h1,h2,fun i=>if i=0 then (p,p,false) else (p,p,true),fun i hi=>?_,rfl,rfl⟩
  have hi0:i=0:=by omega
  subst hi0
  exact .inr (.inr ⟨h3,rfl⟩))
theorem ot30_1(p z m:Int)(w:World):Calls Tryz.prog 30 #[opV p true z m] w (OtPost p z m w) :=
 (opt30_1 p z m w).mono (fun e w' h=>by
  obtain⟨g,c,a,b,rfl,h⟩:=h
  obtain⟨h1,h2,h3,h4,h5,h6,h7⟩:=h.out
  refine⟨g,3,c,rfl,by decide,h1,h2,fun i=>if i=0 then (p,p,false) else if i=1 then (z,p,false) else if i=2 then (z,m,false) else (z,m,true),fun i hi=>?_,rfl,rfl⟩
  have hc:i=0∨i=1∨i=2:=by omega
  rcases hc with rfl|rfl|rfl
  ·exact .inl ⟨a,z,h3,h6,rfl⟩
  ·exact .inr (.inl ⟨b,m,h4,h7,rfl⟩)
  ·exact .inr (.inr ⟨h5,rfl⟩))
def TePost (T:List UInt8) (w:World) (e:Ending) (w':World):Prop :=
 ∃g c:Nat,e=.returned (.tuple #[.slice (some ⟨g,0,none⟩) T.length c,.bool true])∧Hid (T.length≤c∧w.heap.size≤g∧g < w'.heap.size∧TxAt g 0 T w'∧ZF w w')
theorem wt12{k dim p z m:Nat}(hk:1≤k∧k≤6)(hd:dim≤3)(hp:p≤7)(hz:z≤7)(hm:m≤7){s:Sh}{P:Nat→Prop}{w:World}(ht:TenTab w){na:Option Addr}{n nc:Nat}{ka:Option Addr}{mm kc:Nat}(hg:GAt 3 P w [.int .i64 k,.int .i64 dim,.slice na n nc,.slice ka mm kc] (toG k dim s))(hok:GOk k dim s)(hs:SOk k (prs dim p z m) s)
  (hl:(bodyE k (prs dim p z m) ((prs dim p z m).map fun _=>0) s).length≤10000000000) {b:Bool}{z0 m0:Int} (hb:(b=false∧z=p∧m=p)∨(b=true∧z0=z∧m0=m)) :
  Calls Tryz.prog 12 #[.agg #[.int .i64 k,.int .i64 dim,.slice na n nc,.slice ka mm kc],opV p b z0 m0] w (TePost (docE k dim p z m (prs dim p z m) s) w):=by
 obtain⟨T,hT⟩:∃T,T=docE k dim p z m (prs dim p z m) s:=⟨_,rfl⟩
 obtain⟨K,hK⟩:∃K:Int,K=(k:Int):=⟨_,rfl⟩
 obtain⟨D,hD⟩:∃D:Int,D=(dim:Int):=⟨_,rfl⟩
 obtain⟨ty,hty⟩:∃ty,ty=kTy k:=⟨_,rfl⟩
 obtain⟨w0,hw0⟩:∃w0,w0=(w.alloc (.cells #[.int .i64 K,.int .i64 D,.slice na n nc,.slice ka mm kc] 27)).alloc (.cells #[.int .i64 p,.bool b,.bool b,.int .i64 z0,.int .i64 m0,.bool false,.bool false,.bool true,.slice none 0 0] 37):=⟨_,rfl⟩
 have s1:(w.alloc (.cells #[.int .i64 K,.int .i64 D,.slice na n nc,.slice ka mm kc] 27)).heap.size=w.heap.size+1:=by show (w.heap.push _).size=_;rw[Array.size_push]
 have b1:w0.heap[w.heap.size+1]?=some (.cells #[.int .i64 p,.bool b,.bool b,.int .i64 z0,.int .i64 m0,.bool false,.bool false,.bool true,.slice none 0 0] 37 (0,0)):=by
  have:=zN (w.alloc (.cells #[.int .i64 K,.int .i64 D,.slice na n nc,.slice ka mm kc] 27)) (.cells #[.int .i64 p,.bool b,.bool b,.int .i64 z0,.int .i64 m0,.bool false,.bool false,.bool true,.slice none 0 0] 37)
  rw[s1] at this
  rw[hw0]
  exact this
 have b0:w0.heap[w.heap.size]?=some (.cells #[.int .i64 K,.int .i64 D,.slice na n nc,.slice ka mm kc] 27 (0,0)):=by
  rw[hw0,Below.heap_alloc _ _ _ (by omega)]
  exact zN w _
 have F0:Hid (ZF w w0):=by show Fr _ _ _;rw[hw0];exact ((Fr.refl _ w).alloc _).alloc _
 have C29:Hid (Calls Tryz.prog 29 #[.agg #[.int .i64 K,.int .i64 D,.slice na n nc,.slice ka mm kc]] w0.drew (GnPost k dim ty s w0.drew)):=by
  rw[hK,hD,hty]
  exact geom29 hk hd ((GAt.kp 3).kept (fun b _ hl=>F0.out.drew.block b hl (fun h=>h)) hg) hok
 have C30:Hid (∀w1,Calls Tryz.prog 30 #[.agg #[.int .i64 p,.bool b,.bool b,.int .i64 z0,.int .i64 m0,.bool false,.bool false,.bool true,.slice none 0 0]] w1 (OtPost p z m w1)):=fun w1=>by
  rcases hb with ⟨rfl,rfl,rfl⟩|⟨rfl,rfl,rfl⟩
  ·exact ot30_0 _ _ _ w1
  ·exact ot30_1 _ _ _ w1
 have C28:Hid (∀w1 w2 e1 e2 hh g n c,GnPost k dim ty s w0.drew e1 w1→e1=.returned (.agg #[.int .i64 K,.iface ty (.pointer (some ⟨hh,0,none⟩))])→OtPost p z m w1 e2 w2→e2=.returned (.slice (some ⟨g,0,none⟩) n c)→Calls Tryz.prog 28 #[.agg #[.int .i64 K,.iface ty (.pointer (some ⟨hh,0,none⟩))],.int .i64 p,.slice (some ⟨g,0,none⟩) n c] w2 fun e w3=>∃g c:Nat,e=.returned (.tuple #[.slice (some ⟨g,0,none⟩) T.length c,.nilIface])∧Hid (T.length≤c∧w.heap.size≤g∧g < w3.heap.size∧TxAt g 0 T w3∧ZF w w3∧ZF w2 w3)):=by
  rintro w1 w2 e1 e2 hh g n c ⟨h1,rfl,hp1⟩ he1 ⟨g',n',c',rfl,hp2⟩ he2
  rw[hK] at he1
  injection he1 with he1
  injection he1 with he1
  simp only[Array.mk.injEq,List.cons.injEq,Value.iface.injEq,Value.pointer.injEq,Option.some.injEq,Addr.mk.injEq,and_true,true_and] at he1
  subst he1
  injection he2 with he2
  injection he2 with he2 he3 he4
  injection he2 with he2
  injection he2 with he2
  subst he2 he3 he4
  obtain⟨a1,a2⟩:=hp1.out
  obtain⟨o1,o2,o3,st,o4,o5,o6⟩:=hp2.out
  have fw:ZF w w2:=(F0.out.drew.trans a1).trans o3
  have hgk:=(a2.kept (fun b _ hl=>o3.block b hl (fun h=>h))).mono (Q:=fun b=>b < w2.heap.size) (fun b _ hl=>hl)
  rw[hK,hty,hT]
  refine (mt28 hk hd hp hz hm (ht.fr fw (fun h=>h) (fun h=>h)) hgk hs hl o1 o4 o5 o6).mono ?_
  rintro e w3 ⟨g,c,rfl,h3⟩
  obtain⟨x1,x2,x3,x4,x5⟩:=h3.out
  exact⟨g,c,rfl,x1,by have:=fw.size;omega,x3,x4,fw.trans x5,x5⟩
 have FW:Hid (∀w1 e,GnPost k dim ty s w0.drew e w1→ZF w0 w1):=fun w1 e h=>by
  obtain⟨_,_,h⟩:=h
  exact (Fr.refl _ w0).drew.trans h.out.1
 rw[←hT,←hK,←hD]
 have HW:=zH hw0
 have B1:=zH b1
 have B0:=zH b0
 have hlt0:=(zG b0).1
 have KB:Hid (∀w',ZF w0 w'→w'.heap[w.heap.size]?=some (.cells #[.int .i64 K,.int .i64 D,.slice na n nc,.slice ka mm kc] 27 (0,0))∧w'.heap[w.heap.size+1]?=some (.cells #[.int .i64 p,.bool b,.bool b,.int .i64 z0,.int .i64 m0,.bool false,.bool false,.bool true,.slice none 0 0] 37 (0,0))):=fun w' f=>⟨(f.block _ (zG b0).1 (fun h=>h)).trans b0,(f.block _ (zG b1).1 (fun h=>h)).trans b1⟩
 have hlt1:=(zG b1).1
 have HK:=zH hK
 unfold opV
 obtain⟨q0,q1,q2,q3⟩:=bx_cells b0
 obtain⟨p0,p1,p2,p3,p4,p5,p6,p7,p8⟩:=op_cells b1
 clear s1 hT hK hD hty hw0 hg hok hs hl hb ht b0 b1 hk hd hp hz hm
 go_enter Tryz.func12,Tryz.ntmps12
 go_upto_region 1 with fail
 rw[←HW.out]
 go_cut [4,6] from 6 to 16 (fun cv ev wr=>∃g c:Nat,cv=.slice (some ⟨g,0,none⟩) T.length c∧ev=.nilIface∧Hid (T.length≤c∧w.heap.size≤g∧g < wr.heap.size∧TxAt g 0 T wr∧ZF w wr))
 case first =>
  go_region_held3 (fun w'=>w'.cell? ⟨w.heap.size,0,none⟩=some (.int .i64 K)∧w'.cell? ⟨w.heap.size,1,none⟩=some (.int .i64 D)∧w'.cell? ⟨w.heap.size,2,none⟩=some (.slice na n nc)∧w'.cell? ⟨w.heap.size,3,none⟩=some (.slice ka mm kc)∧w'.cell? ⟨w.heap.size+1,0,none⟩=some (.int .i64 p)∧w'.cell? ⟨w.heap.size+1,1,none⟩=some (.bool b)∧w'.cell? ⟨w.heap.size+1,2,none⟩=some (.bool b)∧w'.cell? ⟨w.heap.size+1,3,none⟩=some (.int .i64 z0)∧w'.cell? ⟨w.heap.size+1,4,none⟩=some (.int .i64 m0)∧w'.cell? ⟨w.heap.size+1,5,none⟩=some (.bool false)∧w'.cell? ⟨w.heap.size+1,6,none⟩=some (.bool false)∧w'.cell? ⟨w.heap.size+1,7,none⟩=some (.bool true)∧w'.cell? ⟨w.heap.size+1,8,none⟩=some (.slice none 0 0)) (go_keep) (first|(go_at_call 29;(with_reducible refine C29.out.mono ?_);rintro e w1 hp1;obtain⟨hh,he⟩:∃hh:Nat,e=.returned (.agg #[.int .i64 K,.iface ty (.pointer (some ⟨hh,0,none⟩))]):=(by obtain⟨hh,he,_⟩:=hp1;exact⟨hh,by rw[HK.out];exact he⟩);have HF1:=zH (FW.out _ _ hp1);obtain⟨q0,q1,q2,q3⟩:=bx_cells (KB.out _ HF1.out).1;obtain⟨p0,p1,p2,p3,p4,p5,p6,p7,p8⟩:=op_cells (KB.out _ HF1.out).2;have H1:=zH hp1;subst he;clear hp1)|(go_at_call 30;(with_reducible refine (C30.out _).mono ?_);rintro e w2 hp2;obtain⟨g,n2,c2,he⟩:∃g n c:Nat,e=.returned (.slice (some ⟨g,0,none⟩) n c):=(by obtain⟨g,n,c,he,_⟩:=hp2;exact⟨g,n,c,he⟩);have HF2:Hid (ZF w0 w2):=(by obtain⟨_,_,_,_,h⟩:=hp2;exact HF1.out.trans h.out.2.2.1);obtain⟨q0,q1,q2,q3⟩:=bx_cells (KB.out _ HF2.out).1;obtain⟨p0,p1,p2,p3,p4,p5,p6,p7,p8⟩:=op_cells (KB.out _ HF2.out).2;have H2:=zH hp2;subst he;clear hp2;have C5:=zH (C28.out _ _ _ _ _ _ _ _ H1.out rfl H2.out rfl))|(go_at_call 28;(with_reducible refine C5.out.mono ?_);rintro e w3 ⟨gb,cb,rfl,h3⟩;obtain⟨q0,q1,q2,q3⟩:=bx_cells (KB.out _ (HF2.out.trans h3.out.2.2.2.2.2)).1;obtain⟨p0,p1,p2,p3,p4,p5,p6,p7,p8⟩:=op_cells (KB.out _ (HF2.out.trans h3.out.2.2.2.2.2)).2))
  all_goals
   go_wp2_with fail
   go_meet
   exact⟨gb,cb,rfl,rfl,h3.out.1,h3.out.2.1,h3.out.2.2.1,h3.out.2.2.2.1,h3.out.2.2.2.2.1⟩
 obtain⟨g,c,rfl,rfl,h3⟩:=hcut
 go_wp2_with fail
 exact bodyPost_ret (v:=.tuple #[.slice (some ⟨g,0,none⟩) T.length c,.bool true]) (by simp[results,Tryz.f12,go_sem]) rfl ⟨g,c,rfl,h3⟩
end Go.Proofs.YtnjjgbcmjnfijaaGreatDoor
