/- The package's reader of tiny bytes: the reader made, the box ahead. No condition. -/
import Derived.Test.YtnjjgbcmjnfijaaGreatDoorRi
import Derived.Deep.WholeRow
import Derived.Great.BuildSlice
import Derived.Great.Walk
namespace Go.Proofs.YtnjjgbcmjnfijaaGreatDoor
set_option maxRecDepth 100000
set_option maxHeartbeats 4000000
open Go.RowKit Go.Great
def p00:Pr:=⟨0,0,0,2,0,false,false,0,0,fun _=>0,false,false,false,false,false,.slice none 0 0,.slice none 0 0,fun _=>0⟩
theorem p00_0:Pr0 p00:=⟨rfl,rfl,rfl,rfl,rfl,rfl⟩
theorem p00_at{tb tf tc:Nat}{T:List UInt8}{w:World}(h:TxAt tb tf T w)(htw:tb < w.heap.size)(hl:T.length≤tc∧T.length≤100000000)(A:Obj):PrAt (w.alloc A).heap.size tb tf tc T p00 ((w.alloc A).alloc (.cells (p00.cells (.slice (some ⟨tb,tf,none⟩) T.length tc)) 98)):=by
 have sA:(w.alloc A).heap.size=w.heap.size+1:=by show (w.heap.push _).size=_;rw[Array.size_push]
 exact⟨zN _ _,h.fr (((Fr.refl (fun _=>False) w).alloc _).alloc _) (fun h=>h),by omega,Nat.zero_le _,hl⟩
theorem info98:(Tryz.prog.info? 98).map (·.size)=some 25:=by kernel_rfl
theorem new49(tb tf n tc:Nat)(w:World):Calls Tryz.prog 49 #[.slice (some ⟨tb,tf,none⟩) n tc] w fun e w'=>e=.returned (.agg (p00.cells (.slice (some ⟨tb,tf,none⟩) n tc)))∧w'=w.alloc (.cells (p00.cells (.slice (some ⟨tb,tf,none⟩) n tc)) 98):=by
 have hb:∀(C:Array Value),(w.alloc (.cells C 98)).heap[w.heap.size]?=some (.cells C 98 (0,0)):=fun C=>zN w _
 have HB:=zH hb
 clear hb
 go_enter Tryz.func49,Tryz.ntmps49
 go_upto_region 1 with fail
 refine wp_region_list ?_
 refine wpList_readTo rfl (some 3) rfl (.slice (some ⟨tb,tf,none⟩) n tc) rfl ?_
 refine wpList_buildTo rfl 98 _ rfl (some 4) rfl (p00.cells (.slice (some ⟨tb,tf,none⟩) n tc)) (by kernel_rfl) ?_
 refine wpList_store_rowTo rfl 98 _ _ rfl rfl w.heap.size (p00.cells (.slice (some ⟨tb,tf,none⟩) n tc)) rfl rfl 98 _ (HB.out _) (info98.trans rfl) rfl (by simp[p00,Pr.cells,Value.oneCell']) ?_
 refine wpList_nil ?_
 rw[World.setRow_alloc_new]
 obtain⟨C,hC⟩:∃C,C=p00.cells (.slice (some ⟨tb,tf,none⟩) n tc):=⟨_,rfl⟩
 have hn:C.size=25:=by rw[hC];rfl
 rw[←hC]
 have HC:=zH hC
 clear hC
 go_wp2_with fail
 refine bodyPost_ret (v:=.agg C) (results_cell_row rfl _ _ w.heap.size 98 _ (0,0) _ (by rfl) (HB.out _) Tryz.underlying98 (by rfl) (by rw[hn];exact info98)) rfl ⟨by rw[HC.out],by rw[HC.out]⟩
theorem an51(v:Value)(w:World):Calls Tryz.prog 51 #[v,.nilIface] w fun e w'=>e=.returned .nilIface∧w'=w:=by
 go_enter Tryz.func51,Tryz.ntmps51
 go_wp2_with fail
 go_ret
 exact⟨rfl,rfl⟩
theorem nc25(w:World):Calls Tryz.prog 25 #[.bool false] w fun e w'=>∃g,e=.returned (.slice (some ⟨g,0,none⟩) 1 1)∧ZF w w':=by
 go_enter Tryz.func25,Tryz.ntmps25
 go_wp2_with fail
 exact bodyPost_ret (v:=.slice (some ⟨w.heap.size,0,none⟩) 1 1) (by simp[results,Tryz.f25,go_sem]) rfl ⟨_,rfl,(Fr.refl _ w).alloc _⟩
def CbPost (d:Nat) (w:World) (e:Ending) (w':World):Prop :=
 ∃g x0 y0 z0 m0 x1 y1 z1 m1:Nat,e=.returned (.tuple #[.slice (some ⟨g,0,none⟩) 2 2,.nilIface])∧Hid (ZF w w'∧w.heap.size≤g∧w'.heap[g]?=some (.cells #[.float .f64 x0,.float .f64 y0,.float .f64 z0,.float .f64 m0,.int .u8 d,.bool true,.float .f64 x1,.float .f64 y1,.float .f64 z1,.float .f64 m1,.int .u8 d,.bool true] 115 (0,0)))
theorem box131{pb tb tf tc:Nat}{T:List UInt8}{p:Pr}{w:World}(h:PrAt pb tb tf tc T p w)(htw:tb < w.heap.size)(ht:TenTab w)(hp3:3≤pb)(h0:Pr0 p){k c dim:Nat}{xy:Int}{ps:List Int}{l0:List UInt8}(hh:HeadP T k c dim xy ps l0)(hxy:0≤xy)(hbb:(c % 2 == 1)=true):
  Calls Tryz.prog 131 #[.pointer (some ⟨pb,0,none⟩)] w (BxPost pb dim w):=by
 have hd:dim=0∨dim=1∨dim=2∨dim=3:=by
  obtain⟨b0,b1,r1,r2,r3,_,_,_,_,hE,_⟩:=hh
  unfold ExtP at hE
  split at hE
  ·obtain⟨b2,_,h2,_⟩:=hE;omega
  ·omega
 rcases hd with rfl|rfl|rfl|rfl
 ·exact box131_0 h htw ht hp3 h0 hh hxy hbb
 ·exact box131_1 h htw ht hp3 h0 hh hxy hbb
 ·exact box131_2 h htw ht hp3 h0 hh hxy hbb
 ·exact box131_3 h htw ht hp3 h0 hh hxy hbb
theorem hdr53{tb tf tc:Nat}{T:List UInt8}{w:World}(h:TxAt tb tf T w)(htw:tb < w.heap.size)(hl:T.length≤tc∧T.length≤100000000)(ht:TenTab w){k c dim:Nat}{xy:Int}{ps:List Int}{l0:List UInt8}(hh:HeadP T k c dim xy ps l0)(hxy:0≤xy)(hbb:(c % 2 == 1)=true):
  Calls Tryz.prog 53 #[.slice (some ⟨tb,tf,none⟩) T.length tc] w (CbPost dim w):=by
 have h3:3≤w.heap.size:=World.block_lt_of_cell? w _ (ht.2 0 (by decide))
 obtain⟨C,hC⟩:∃C,C=p00.cells (.slice (some ⟨tb,tf,none⟩) T.length tc):=⟨_,rfl⟩
 obtain⟨w0,hw0⟩:∃w0,w0=(w.alloc (.cells C 98)).alloc (.cells C 98):=⟨_,rfl⟩
 have f0:ZF w w0:=by rw[hw0];exact ((Fr.refl _ w).alloc _).alloc _
 have hpa:=p00_at h htw hl (.cells C 98)
 rw[←hC,←hw0] at hpa
 have sA:(w.alloc (.cells C 98)).heap.size=w.heap.size+1:=by show (w.heap.push _).size=_;rw[Array.size_push]
 rw[sA] at hpa
 have B:=zH (box131 hpa (Nat.lt_of_lt_of_le htw f0.size) (ht.fr f0 (fun h=>h) (fun h=>h)) (by omega) p00_0 hh hxy hbb)
 have C49:=zH (new49 tb tf T.length tc w)
 have hn:Hid (C.size=25):=by show _=_;rw[hC];rfl
 have h1c:Hid (C.all (·.oneCell')=true):=by show _=_;rw[hC];simp[p00,Pr.cells,Value.oneCell']
 have HC:=zH hC
 have HW:=zH hw0
 have F0:=zH f0
 have A51:=zH an51
 have HB0:=zH (fun (C':Array Value)=>zN (w.alloc (.cells C 98)) (.cells C' 98))
 clear h ht hh hxy hbb hl hC hw0 f0 hpa
 go_enter Tryz.func53,Tryz.ntmps53
 go_upto_region 1 with fail
 refine wp_region_list ?_
 refine wpList_readTo rfl (some 5) rfl (.slice (some ⟨tb,tf,none⟩) T.length tc) rfl ?_
 refine wpList_callTo rfl (some 6) rfl 49 #[.slice (some ⟨tb,tf,none⟩) T.length tc] (by kernel_rfl) (.agg C) (w.alloc (.cells C 98)) (by rw[HC.out];exact C49.out) ?_
 refine wpList_allocTo rfl (some 4) rfl (.pointer (some ⟨(w.alloc (.cells C 98)).heap.size,0,none⟩)) (.cells #[.slice none 0 0,.int .i64 0,.int .i64 0,.int .u8 0,.int .i64 0,.int .i64 0,.bool false,.bool false,.int .i64 0,.int .i64 0,.float .f64 0,.float .f64 0,.float .f64 0,.float .f64 0,.bool false,.bool false,.bool false,.bool false,.bool false,.slice none 0 0,.slice none 0 0,.int .i64 0,.int .i64 0,.int .i64 0,.int .i64 0] 98) (by kernel_rfl) ?_
 refine wpList_store_rowTo rfl 98 _ _ rfl rfl (w.alloc (.cells C 98)).heap.size C rfl rfl 98 _ (HB0.out _) (by rw[hn.out];exact info98) (by rw[hn.out];rfl) h1c.out ?_
 refine wpList_nil ?_
 rw[World.setRow_alloc_new,←HW.out]
 have hs:=sA
 rw[sA]
 go_upto_region 3 with (go_at_call 131;refine B.out.mono ?_;rintro e w1 ⟨g,x0,y0,z0,m0,x1,y1,z1,m1,rfl,h1⟩)
 go_wp2_with (go_at_call 51;refine (A51.out _ _).mono ?_;rintro e w2 ⟨rfl,rfl⟩)
 refine bodyPost_ret (v:=.tuple #[.slice (some ⟨g,0,none⟩) 2 2,.nilIface]) (by simp[results,Tryz.f53,go_sem]) rfl ?_
 refine⟨g,x0,y0,z0,m0,x1,y1,z1,m1,rfl,?_⟩
 obtain⟨a1,a2,a3⟩:=h1.out
 have fs:=F0.out.size
 exact zH ⟨F0.out.transNew a1 (fun b e=>.inl (by omega)),by omega,a3⟩
open Go.RowKit Go.Great
def CornersAt (dim:Nat) (P:Nat→Prop) (w:World) (v:Value):Prop :=
 v=.slice none 0 0∨∃g x0 y0 z0 m0 x1 y1 z1 m1:Nat,v=.slice (some ⟨g,0,none⟩) 2 2∧P g∧w.heap[g]?=some (.cells #[.float .f64 x0,.float .f64 y0,.float .f64 z0,.float .f64 m0,.int .u8 dim,.bool true,.float .f64 x1,.float .f64 y1,.float .f64 z1,.float .f64 m1,.int .u8 dim,.bool true] 115 (0,0))
def kTy (k:Nat):Nat:=if k=1 then 208 else if k=2 then 211 else if k=3 then 213 else if k=4 then 215 else if k=5 then 217 else 219
def kId (k:Nat):Nat:=if k=1 then 115 else if k=2 then 121 else if k=3 then 126 else if k=4 then 130 else if k=5 then 134 else 139
theorem geom50{pb tb tf tc:Nat}{T:List UInt8}{p:Pr}{w:World}(h:PrAt pb tb tf tc T p w)(htw:tb < w.heap.size)(ht:TenTab w)(hp3:3≤pb)(h0:Pr0 p)(hiv:p.iv=.slice none 0 0){k c dim mx:Nat}{xy:Int}{ps is Q:List Int}{l0 l':List UInt8}{s:Sh}(hk:1≤k∧k≤6)(hh:HeadP T k c dim xy ps l0)(hxy:0≤xy)(hem:(c / 16 % 2 == 1)=false)(hmx:mx≤5000)(hrf:RfOk p.rf Q)(hb:BodyP mx k (c / 4 % 2 == 1) ps Q l0 s is l')(hne:NE s):
  Calls Tryz.prog 50 #[.pointer (some ⟨pb,0,none⟩)] w (GmPost k (kTy k) (kId k) pb tb tf tc T c dim s w):=by
 have hk6:k=1∨k=2∨k=3∨k=4∨k=5∨k=6:=by omega
 rcases hk6 with rfl|rfl|rfl|rfl|rfl|rfl
 ·exact geom50_1 h htw ht hp3 h0 hiv hh hxy hem hmx hrf hb hne
 ·exact geom50_2 h htw ht hp3 h0 hiv hh hxy hem hmx hrf hb hne
 ·exact geom50_3 h htw ht hp3 h0 hiv hh hxy hem hmx hrf hb hne
 ·exact geom50_4 h htw ht hp3 h0 hiv hh hxy hem hmx hrf hb hne
 ·exact geom50_5 h htw ht hp3 h0 hiv hh hxy hem hmx hrf hb hne
 ·exact geom50_6 h htw ht hp3 h0 hiv hh hxy hem hmx hrf hb hne
def UnPost (k dim:Nat) (s:Sh) (w:World) (e:Ending) (w':World):Prop :=
 ∃(h:Nat) (vb:Value) (a:Option Addr) (n c1:Nat),e=.returned (.tuple #[.agg #[.int .i64 k,.iface (kTy k) (.pointer (some ⟨h,0,none⟩))],vb,.slice a n c1,.nilIface])∧Hid (ZF w w'∧GmE k (kId k) dim s (fun b=>w.heap.size≤b) w' h∧CornersAt dim (fun b=>w.heap.size≤b) w' vb)
theorem un24{tb tf tc g0:Nat}{T:List UInt8}{w:World}(h:TxAt tb tf T w)(htw:tb < w.heap.size)(hl:T.length≤tc∧T.length≤100000000)(ht:TenTab w){k c dim mx:Nat}{xy:Int}{ps is Q:List Int}{l0 l':List UInt8}{s:Sh}(hk:1≤k∧k≤6)(hh:HeadP T k c dim xy ps l0)(hxy:0≤xy)(hem:(c / 16 % 2 == 1)=false)(hmx:mx≤5000)(hrf:RfOk (fun _=>0) Q)(hb:BodyP mx k (c / 4 % 2 == 1) ps Q l0 s is l')(hne:NE s):
  Calls Tryz.prog 24 #[.slice (some ⟨tb,tf,none⟩) T.length tc,.slice (some ⟨g0,0,none⟩) 1 1] w (UnPost k dim s w):=by
 have h3:3≤w.heap.size:=World.block_lt_of_cell? w _ (ht.2 0 (by decide))
 obtain⟨C,hC⟩:∃C,C=p00.cells (.slice (some ⟨tb,tf,none⟩) T.length tc):=⟨_,rfl⟩
 obtain⟨wr,hwr⟩:∃wr,wr=w.alloc (.cells #[.int .i64 0,.nilIface] 56):=⟨_,rfl⟩
 obtain⟨w0,hw0⟩:∃w0,w0=(wr.alloc (.cells C 98)).alloc (.cells C 98):=⟨_,rfl⟩
 have fr0:ZF w wr:=by rw[hwr];exact (Fr.refl _ w).alloc _
 have f0:ZF wr w0:=by rw[hw0];exact ((Fr.refl _ wr).alloc _).alloc _
 have sr:wr.heap.size=w.heap.size+1:=by rw[hwr];show (w.heap.push _).size=_;rw[Array.size_push]
 have br:wr.heap[w.heap.size]?=some (.cells #[.int .i64 0,.nilIface] 56 (0,0)):=by rw[hwr];exact zN w _
 have htr:=h.fr fr0 (fun h=>h)
 have htwr:tb < wr.heap.size:=by omega
 have hpa:=p00_at htr htwr hl (.cells C 98)
 rw[←hC,←hw0] at hpa
 have sA:(wr.alloc (.cells C 98)).heap.size=w.heap.size+2:=by show (wr.heap.push _).size=_;rw[Array.size_push,sr]
 rw[sA] at hpa
 have G:=zH (geom50 hpa (Nat.lt_of_lt_of_le htwr f0.size) ((ht.fr fr0 (fun h=>h) (fun h=>h)).fr f0 (fun h=>h) (fun h=>h)) (by omega) p00_0 rfl hk hh hxy hem hmx hrf hb hne)
 have BX:Hid (∀w1,TxAt tb tf T w1→TenTab w1→tb < w1.heap.size→(c % 2 == 1)=true→Calls Tryz.prog 53 #[.slice (some ⟨tb,tf,none⟩) T.length tc] w1 (CbPost dim w1)):=fun w1 h1 h2 h4 h5=>hdr53 h1 h4 hl h2 hh hxy h5
 have C49:=zH (new49 tb tf T.length tc wr)
 have HT:=zH (⟨htr.fr f0 (fun h=>h),(ht.fr fr0 (fun h=>h) (fun h=>h)).fr f0 (fun h=>h) (fun h=>h)⟩:_∧_)
 have BR:=zH ((f0.block _ (by omega) (fun h=>h)).trans br)
 have hn:Hid (C.size=25):=by show _=_;rw[hC];rfl
 have h1c:Hid (C.all (·.oneCell')=true):=by show _=_;rw[hC];simp[p00,Pr.cells,Value.oneCell']
 have HC:=zH hC
 have HW:=zH hw0
 have HWR:=zH hwr
 have F0:=zH (fr0.trans f0)
 have A51:=zH an51
 have HB0:=zH (fun (C':Array Value)=>zN (wr.alloc (.cells C 98)) (.cells C' 98))
 have s0:w0.heap.size=w.heap.size+3:=by rw[hw0];show ((wr.alloc _).heap.push _).size=_;rw[Array.size_push,sA]
 have HSA:=zH sA
 have hlt0:w.heap.size < w0.heap.size:=by omega
 clear h ht hh hxy hb hl hC hw0 hwr f0 fr0 hpa br htr hem hmx hrf hne sA sr s0 htwr
 go_enter Tryz.func24,Tryz.ntmps24
 go_upto_region 1 with fail
 rw[←HWR.out]
 refine wp_region_list ?_
 refine wpList_readTo rfl (some 10) rfl (.slice (some ⟨tb,tf,none⟩) T.length tc) rfl ?_
 refine wpList_callTo rfl (some 11) rfl 49 #[.slice (some ⟨tb,tf,none⟩) T.length tc] (by kernel_rfl) (.agg C) (wr.alloc (.cells C 98)) (by rw[HC.out];exact C49.out) ?_
 refine wpList_allocTo rfl (some 8) rfl (.pointer (some ⟨(wr.alloc (.cells C 98)).heap.size,0,none⟩)) (.cells #[.slice none 0 0,.int .i64 0,.int .i64 0,.int .u8 0,.int .i64 0,.int .i64 0,.bool false,.bool false,.int .i64 0,.int .i64 0,.float .f64 0,.float .f64 0,.float .f64 0,.float .f64 0,.bool false,.bool false,.bool false,.bool false,.bool false,.slice none 0 0,.slice none 0 0,.int .i64 0,.int .i64 0,.int .i64 0,.int .i64 0] 98) (by kernel_rfl) ?_
 refine wpList_store_rowTo rfl 98 _ _ rfl rfl (wr.alloc (.cells C 98)).heap.size C rfl rfl 98 _ (HB0.out _) (by rw[hn.out];exact info98) (by rw[hn.out];rfl) h1c.out ?_
 refine wpList_nil ?_
 rw[World.setRow_alloc_new,←HW.out,HSA.out]
 obtain⟨pb,hpb⟩:∃pb,pb=w.heap.size+2:=⟨_,rfl⟩
 rw[←hpb] at G ⊢
 have hpl:w.heap.size < pb:=by omega
 have HPB:=zH hpb
 clear hpb HSA
 clear hk
 obtain⟨ty,hty⟩:∃ty,ty=kTy k:=⟨_,rfl⟩
 obtain⟨K,hK⟩:∃K:Int,K=(k:Int):=⟨_,rfl⟩
 have HTY:=zH hty
 have HK:=zH hK
 clear hty hK
 go_upto_region 2 with fail
 go_wp2_with fail
 refine G.out.mono ?_
 rintro e w1 ⟨hh,rfl,h1⟩
 rw[←HTY.out,←HK.out]
 have hb1:w1.heap[w.heap.size]?=some (.cells #[.int .i64 0,.nilIface] 56 (0,0)):=by
  obtain⟨_,_,hf,_⟩:=h1.out
  exact (hf.block _ (by omega) (by omega)).trans BR.out
 have r0:w1.cell? ⟨w.heap.size,0,none⟩=some (.int .i64 0):=by rw[zC hb1];rfl
 have r1:w1.cell? ⟨w.heap.size,1,none⟩=some .nilIface:=by rw[zC hb1];rfl
 have rf:∀i,w1.frozen? ⟨w.heap.size,i,none⟩=false:=fun i=>zF hb1 i
 have f12:Fr (Eq w.heap.size) w1 ((w1.setCell ⟨w.heap.size,0,none⟩ (.int .i64 K)).setCell ⟨w.heap.size,1,none⟩ (.iface ty (.pointer (some ⟨hh,0,none⟩)))):=((Fr.refl _ w1).setR _).setR _
 have hb2:((w1.setCell ⟨w.heap.size,0,none⟩ (.int .i64 K)).setCell ⟨w.heap.size,1,none⟩ (.iface ty (.pointer (some ⟨hh,0,none⟩)))).heap[w.heap.size]?=some (.cells #[.int .i64 K,.iface ty (.pointer (some ⟨hh,0,none⟩))] 56 (0,0)):=by
  rw[Lib.heap_setCell_same (i:=1) (Lib.heap_setCell_same (i:=0) hb1 _) _];rfl
 have P12:Hid (∃p':Pr,PrAt pb tb tf tc T p' ((w1.setCell ⟨w.heap.size,0,none⟩ (.int .i64 K)).setCell ⟨w.heap.size,1,none⟩ (.iface ty (.pointer (some ⟨hh,0,none⟩))))∧p'.bb=(c % 2 == 1)∧∃(a:Option Addr) (n c1:Nat),p'.iv=.slice a n c1):=by
  obtain⟨p',q1,q2,q3,q4,q5⟩:=h1.out
  exact⟨p',q1.fr f12 (by omega) (by omega),q4,q5⟩
 have F12:=zH f12
 have HB2:=zH hb2
 have HPL:=zH (⟨hpl,hlt0,htw,h3⟩:_∧_∧_∧_)
 clear hb1 hpl hlt0 htw h3 f12 hb2
 go_upto_region 3 with fail
 obtain⟨w2,hw2⟩:∃w2,w2=(w1.setCell ⟨w.heap.size,0,none⟩ (.int .i64 K)).setCell ⟨w.heap.size,1,none⟩ (.iface ty (.pointer (some ⟨hh,0,none⟩))):=⟨_,rfl⟩
 rw[←hw2] at F12 HB2 P12 ⊢
 clear hw2 r0 r1 rf
 obtain⟨p',hp',hbb',ivx⟩:=P12.out
 obtain⟨a0,n0,c0,hiv⟩:=ivx
 have c14:=hp'.c14
 rw[hbb'] at c14
 obtain⟨zb,hzb⟩:∃z,z=(c % 2 == 1):=⟨_,rfl⟩
 rw[←hzb] at c14
 have HZB:=zH hzb
 have HP:=zH hp'
 have HIV:=zH hiv
 clear hp' hbb' hiv hzb P12
 go_upto_if 31 with fail
 go_cut [5,7] from 31 to 41 (fun v5 v7 wr=>v7=.nilIface∧Hid (ZF w2 wr∧CornersAt dim (fun b=>w0.heap.size≤b) wr v5))
 case first =>
  cases zb with
  | false =>
   have HR:Hid (ZF w2 w2∧CornersAt dim (fun b=>w0.heap.size≤b) w2 (.slice none 0 0)):=⟨Fr.refl _ _,.inl rfl⟩
   go_wp2_with fail
   go_meet
   exact⟨rfl,HR.out⟩
  | true =>
   obtain⟨q1,q2,q3,q4⟩:=HPL.out
   have CB:=zH (BX.out w2 (by obtain⟨_,_,hf,_⟩:=h1.out;exact (HT.out.1.fr hf (fun e=>HP.out.ne e.symm)).fr F12.out (by omega)) (by obtain⟨_,_,hf,_⟩:=h1.out;exact (HT.out.2.fr hf (by omega) (by omega)).fr F12.out (by omega) (by omega)) (by obtain⟨_,_,hf,_⟩:=h1.out;have:=hf.size;have:=F12.out.size;omega) HZB.out.symm)
   clear q1 q2 q3 q4
   go_wp2_with (go_at_call 53;refine CB.out.mono ?_;rintro e w3 ⟨g,x0,y0,z0,m0,x1,y1,z1,m1,rfl,h3⟩)
   have HR:Hid (ZF w2 w3∧CornersAt dim (fun b=>w0.heap.size≤b) w3 (.slice (some ⟨g,0,none⟩) 2 2)):=by
    obtain⟨a1,a2,a3⟩:=h3.out
    refine⟨a1,.inr ⟨g,x0,y0,z0,m0,x1,y1,z1,m1,rfl,?_,a3⟩⟩
    obtain⟨_,_,hf,_⟩:=h1.out
    have:=hf.size
    have:=F12.out.size
    show w0.heap.size≤g
    omega
   go_meet
   exact⟨rfl,HR.out⟩
 case rest =>
  obtain⟨rfl,hrel⟩:=hcut
  have hb3:=(hrel.out.1.block _ (by obtain⟨_,_,hf,_⟩:=h1.out;have:=hf.size;have:=F12.out.size;have:=HPL.out.2.1;omega) (fun h=>h)).trans HB2.out
  have r0:wc.cell? ⟨w.heap.size,0,none⟩=some (.int .i64 K):=by rw[zC hb3];rfl
  have r1:wc.cell? ⟨w.heap.size,1,none⟩=some (.iface ty (.pointer (some ⟨hh,0,none⟩))):=by rw[zC hb3];rfl
  have rf:∀i,wc.frozen? ⟨w.heap.size,i,none⟩=false:=fun i=>zF hb3 i
  have c20:=(HP.out.keep hrel.out.1).c20
  rw[HIV.out] at c20
  have hne1:¬pb=w.heap.size:=by have:=HPL.out.1;omega
  have hne2:¬w.heap.size=pb:=fun e=>hne1 e.symm
  clear hb3 c14
  have FIN:∀w',Fr (Eq w.heap.size) wc w'→UnPost k dim s w (.returned (.tuple #[.agg #[.int .i64 K,.iface ty (.pointer (some ⟨hh,0,none⟩))],u5,.slice a0 n0 c0,.nilIface])) w':=fun w' hf=>by
   obtain⟨p1,z1,z2,z3,_⟩:=h1.out
   obtain⟨y1,y2⟩:=hrel.out
   have g1:=F0.out.size
   have g2:=z2.size
   have g3:=F12.out.size
   have g4:=y1.size
   have g5:=HPL.out.2.1
   have g6:=HPL.out.1
   have fw:ZF w w':=(((F0.out.transNew z2 (fun b e=>.inl (by omega))).transNew F12.out (fun b e=>.inl (by omega))).trans y1).transNew hf (fun b e=>.inl (by omega))
   have f1w:Fr (Eq w.heap.size) w1 w':=(F12.out.trans (y1.weak (fun _ h=>h.elim))).trans hf
   obtain⟨m1,cs,m2,m3⟩:=z3.kept (fun b hb hl=>f1w.block b hl (by omega))
   refine⟨hh,u5,a0,n0,c0,by rw[HTY.out,HK.out],zH ⟨fw,⟨Nat.le_trans g1 m1,cs,m2,m3.mono (fun b hb _=>Nat.le_trans g1 hb)⟩,?_⟩⟩
   rcases y2 with y2|⟨g,x0,y0,q0,n1,x1,y3,q1,n2,e1,e2,e3⟩
   ·exact .inl y2
   ·exact .inr ⟨g,x0,y0,q0,n1,x1,y3,q1,n2,e1,Nat.le_trans g1 e2,(hf.block g (zG e3).1 (by have:w0.heap.size≤g:=e2;omega)).trans e3⟩
  have HFIN:=zH FIN
  clear FIN
  go_upto_region 13 with fail
  go_region_with (first|(go_at_call 51;refine (A51.out _ _).mono ?_;rintro e w' ⟨rfl,rfl⟩))
  all_goals go_wp2_with fail
  all_goals refine bodyPost_ret (v:=.tuple #[.agg #[.int .i64 K,.iface ty (.pointer (some ⟨hh,0,none⟩))],u5,.slice a0 n0 c0,.nilIface]) (by simp[results,Tryz.f24,go_sem,r0,r1]) rfl (HFIN.out _ ?_)
  all_goals first|exact (((Fr.refl _ wc).setR _).setR _)|exact (((Fr.refl _ wc).setR _).setR _).drew|exact ((((Fr.refl _ wc).setR _).setR _).drewN 1)
end Go.Proofs.YtnjjgbcmjnfijaaGreatDoor
