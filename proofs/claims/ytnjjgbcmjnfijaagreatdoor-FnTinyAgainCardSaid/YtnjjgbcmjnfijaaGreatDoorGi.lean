/- Trees of the reference: made anew. No condition. -/
import Derived.Test.YtnjjgbcmjnfijaaGreatDoorGh
namespace Go.Proofs.YtnjjgbcmjnfijaaGreatDoor
set_option maxRecDepth 100000
set_option maxHeartbeats 8000000
open Go.RowKit
def kdO (k:Int):Int:=if k=4 then 1 else if k=3∨k=5 then 2 else if k=6 then 3 else -1
def kdN (k:Int):Int:=if 6 < k then 0 else k
def okK (k:Int) (x:G):Bool:=kdO k < 0 || kdO k == x.kind
def cts:Nat→List G→Nat
 | c,[]=>c
 | c,x :: xs=>cts (c &&& x.dim.toNat) xs
def nw:Nat→G→G
 | 0,g=>g
 | n+1,.mk k d ns ks =>
  if kdN k=1∨kdN k=2 then .mk (kdN k) d (ns.take ((if kdN k=1 then min (ns.length / wd d.toNat) 1 else ns.length / wd d.toNat)*wd d.toNat)) []
  else
   if ((ks.map (nw n)).filter (okK (kdN k))).length=0 then .mk (kdN k) d [] []
   else fo (n+1) (cts 3 ((ks.map (nw n)).filter (okK (kdN k)))) (.mk (kdN k) d [] ((ks.map (nw n)).filter (okK (kdN k))))
def UD:Nat→Nat→G→Prop
 | 0,_,_=>True
 | n+1,e,.mk _ d _ ks=>d.toNat=e∧∀x∈ks,UD n e x
theorem UD.fq:∀{n e c:Nat}{g:G},UD n e g→wd c≤wd e→FQ n c g
 | 0,_,_,_,_,_=>trivial
 | n+1,e,c,.mk k d ns ks,h,hc=>⟨.inr (by rw[h.1];exact hc),fun x hx=>(h.2 x hx).fq hc⟩
theorem fo_UD:∀(n c:Nat) (g:G),UD n c (fo n c g)
 | 0,_,_=>trivial
 | n+1,c,.mk k d ns ks=>by
  refine⟨Int.toNat_natCast c,fun x hx=>?_⟩
  obtain⟨y,_,rfl⟩:=List.mem_map.1 hx
  exact fo_UD n c y
theorem nw_UD:∀(n:Nat) (g:G),UD n (nw n g).dim.toNat (nw n g)
 | 0,_=>trivial
 | n+1,.mk k d ns ks=>by
  unfold nw
  split
  ·exact⟨rfl,fun x hx=>by simp at hx⟩
  ·split
   ·exact⟨rfl,fun x hx=>by simp at hx⟩
   ·have h:=fo_UD (n+1) (cts 3 ((ks.map (nw n)).filter (okK (kdN k)))) (.mk (kdN k) d [] ((ks.map (nw n)).filter (okK (kdN k))))
    have e:(fo (n+1) (cts 3 ((ks.map (nw n)).filter (okK (kdN k)))) (.mk (kdN k) d [] ((ks.map (nw n)).filter (okK (kdN k))))).dim.toNat=cts 3 ((ks.map (nw n)).filter (okK (kdN k))):=by
     show (Int.ofNat _).toNat=_
     rfl
    rw[e]
    exact h
theorem and_le:∀a b:Fin 4,(a.val &&& b.val)≤3∧wd (a.val &&& b.val)≤wd a.val∧wd (a.val &&& b.val)≤wd b.val:=by decide
theorem and_wd{a b:Nat}(ha:a≤3)(hb:b≤3):(a &&& b)≤3∧wd (a &&& b)≤wd a∧wd (a &&& b)≤wd b:=and_le ⟨a,by omega⟩ ⟨b,by omega⟩
theorem and_bits:∀a b:Fin 4,bits .and .i64 (a.val:Int) (b.val:Int)=((a.val &&& b.val:Nat):Int):=by decide
theorem and_i64{a b:Nat}(ha:a≤3)(hb:b≤3):bits .and .i64 (a:Int) (b:Int)=((a &&& b:Nat):Int):=and_bits ⟨a,by omega⟩ ⟨b,by omega⟩
theorem cts_le:∀(xs:List G) {c:Nat},c≤3→(∀x∈xs,x.dim.toNat≤3)→cts c xs≤3∧wd (cts c xs)≤wd c∧∀x∈xs,wd (cts c xs)≤wd x.dim.toNat
 | [],c,hc,_=>⟨hc,Nat.le_refl _,fun x hx=>by simp at hx⟩
 | y :: xs,c,hc,h=>by
  have hy:=h y (by simp)
  obtain⟨a1,a2,a3⟩:=and_wd hc hy
  obtain⟨b1,b2,b3⟩:=cts_le xs (c:=c &&& y.dim.toNat) a1 (fun x hx=>h x (by simp[hx]))
  refine⟨b1,Nat.le_trans b2 a2,fun x hx=>?_⟩
  rcases List.mem_cons.1 hx with rfl|hx
  ·exact Nat.le_trans b2 a3
  ·exact b3 x hx
theorem cts_snoc:∀(xs:List G) (c:Nat) (x:G),cts c (xs++[x])=cts c xs &&& x.dim.toNat
 | [],_,_=>rfl
 | _ :: xs,_,x=>cts_snoc xs _ x
theorem nw_fq{n:Nat}{k d:Int}{xs:List G}(h:∀x∈xs,UD n x.dim.toNat x∧x.dim.toNat≤3):FQ (n+1) (cts 3 xs) (.mk k d [] xs):=by
 obtain⟨_,_,h3⟩:=cts_le xs (c:=3) (by omega) (fun x hx=>(h x hx).2)
 exact⟨.inl rfl,fun x hx=>(h x hx).1.fq (h3 x hx)⟩
theorem leaf36(k:Int)(w:World):Calls Tryz.prog 36 #[.int .i64 k] w fun e w'=>e=.returned (.bool (k == 1 || k == 2))∧w=w':=by
 by_cases h1:k=1
 ·subst h1
  go_enter Tryz.func36,Tryz.ntmps36
  go_wp2_with fail
  go_ret
  exact⟨rfl,rfl⟩
 ·have e1:(k == 1)=false:=by simp[h1]
  obtain⟨z,hz⟩:∃z,(k == 2)=z:=⟨_,rfl⟩
  have HZ:=zH hz
  rw[e1,hz]
  go_enter Tryz.func36,Tryz.ntmps36
  go_wp2_with fail
  go_ret
  exact⟨rfl,rfl⟩
theorem kid38(k:Int)(w:World):Calls Tryz.prog 38 #[.int .i64 k] w fun e w'=>e=.returned (.int .i64 (kdO k))∧w'=w:=by
 by_cases h3:k=3
 ·subst h3;exact kid38_3 w
 ·by_cases h4:k=4
  ·subst h4;exact kid38_4 w
  ·by_cases h5:k=5
   ·subst h5;exact kid38_5 w
   ·by_cases h6:k=6
    ·subst h6;exact kid38_6 w
    ·have e3:(k == 3)=false:=by simp[h3]
     have e4:(k == 4)=false:=by simp[h4]
     have e5:(k == 5)=false:=by simp[h5]
     have e6:(k == 6)=false:=by simp[h6]
     have hk:kdO k = -1:=by unfold kdO;simp[h3,h4,h5,h6]
     rw[hk]
     clear h3 h4 h5 h6 hk
     go_enter Tryz.func38,Tryz.ntmps38
     go_wp2_with fail
     go_ret
     exact⟨rfl,rfl⟩
theorem and_three:∀a:Fin 4,bits .and .i64 (a.val:Int) 3=(a.val:Int):=by decide
theorem and_3{a:Nat}(ha:a≤3):bits .and .i64 (a:Int) 3=(a:Int):=and_three ⟨a,by omega⟩
theorem FoAt.new(d:Nat)(w:World)(k dm c:Int)(nv kv:Value):FoAt d w #[.int .i64 k,.int .i64 dm,nv,kv] k c (.slice none 0 0) [] (w.heap.size+3) 0 (.slice none 0 0) [] (foW w k dm c nv kv):=by
 obtain⟨s0,f0,b0,b1,b2⟩:=foW_cells w k dm c nv kv
 exact⟨f0,b0,b1,b2,⟨rfl,none,0,rfl,Nat.le_refl _,fun _=>⟨rfl,rfl⟩,fun h=>by simp at h⟩,OwnRows.nil,rfl,⟨Nat.le_refl _,by omega⟩⟩
theorem FoAt.setK{d:Nat}{w:World}{bx:Array Value}{k c:Int}{nv:Value}{ns:List Nat}{M i:Nat}{v:Value}{xs:List G}{wr:World}(h:FoAt d w bx k c nv ns M i v xs wr)(k2:Int):FoAt d w bx k2 c nv ns M i v xs (wr.setCell ⟨w.heap.size+2,0,none⟩ (.int .i64 k2)):=by
 have k8:∀b,b≠w.heap.size+2→(wr.setCell ⟨w.heap.size+2,0,none⟩ (.int .i64 k2)).heap[b]?=wr.heap[b]?:=fun b hb=>Below.heap_setCell _ _ _ _ hb
 have s8:(wr.setCell ⟨w.heap.size+2,0,none⟩ (.int .i64 k2)).heap.size=wr.heap.size:=by simp[World.setCell]
 have hm:=h.ms
 exact⟨h.fr.setNew (by show w.heap.size≤w.heap.size+2;omega) _,(k8 _ (by omega)).trans h.box,(k8 _ (by omega)).trans h.res,Lib.heap_setCell_same (i:=0) h.o _,CellsAt.kept (w:=wr) h.nums (fun b hb _=>k8 b (by omega)),OwnRows.kept (GAt.kp d) (fun b hb _=>k8 b (by omega)) h.own,h.len,⟨hm.1,by omega⟩⟩
theorem FoAt.run{d:Nat}{w:World}{bx:Array Value}{k c:Int}{nv:Value}{ns:List Nat}{M i:Nat}{v:Value}{xs:List G}{wr wy:World}(h:FoAt d w bx k c nv ns M i v xs wr)(f:ZF wr wy):FoAt d w bx k c nv ns M i v xs wy:=by
 have hm:=h.ms
 have hs:=f.size
 have old:∀b,b < wr.heap.size→wy.heap[b]?=wr.heap[b]?:=fun b h1=>f.block b h1 (fun h=>h)
 exact⟨h.fr.trans f,(old _ (by omega)).trans h.box,(old _ (by omega)).trans h.res,(old _ (by omega)).trans h.o,CellsAt.kept (w:=wr) h.nums (fun b _ hl=>old b hl),OwnRows.kept (GAt.kp d) (fun b _ hl=>old b hl) h.own,h.len,⟨hm.1,by omega⟩⟩
def NewPost (d:Nat) (g:G) (w:World) (e:Ending) (w':World):Prop :=
 ∃(k dm:Int) (na:Option Addr) (n nc:Nat) (ka:Option Addr) (m kc:Nat),e=.returned (.agg #[.int .i64 k,.int .i64 dm,.slice na n nc,.slice ka m kc])∧Hid (ZF w w'∧GAt d (fun b=>w.heap.size≤b) w' [.int .i64 k,.int .i64 dm,.slice na n nc,.slice ka m kc] (nw d g))
theorem FoAt.gat{d:Nat}{w:World}{bx:Array Value}{k c:Int}{nv:Value}{ns:List Nat}{M i:Nat}{v:Value}{xs:List G}{wr:World}(h:FoAt d w bx k c nv ns M i v xs wr)(hk0:0≤k)(hk:k≤15)(hc0:0≤c)(hc:c≤3)(hn:ns.length≤30000)(hx:i≤4096):GAt (d+1) (fun b=>w.heap.size≤b∧b≠w.heap.size+1) wr [.int .i64 k,.int .i64 c,nv,v] (.mk k c ns xs):=by
 have hE:=GAt.kp d
 have hm:=h.ms
 exact⟨nv,v,rfl,CellsAt.mono h.nums (by decide) (fun b hb _=>by omega),RowsAt.mono hE (by decide) (fun b hb _=>by omega) (h.own.done hE (by decide)),hn,by show xs.length≤4096;rw[h.len];exact hx,hk0,hk,hc0,hc⟩
theorem FoAt.newp{d:Nat}{w:World}{bx:Array Value}{k c:Int}{nv:Value}{ns:List Nat}{M i:Nat}{v:Value}{xs:List G}{wr:World}(h:FoAt d w bx k c nv ns M i v xs wr){wy wz:World}(f:ZF wr wy)(f2:Fr (Eq (w.heap.size+1)) wy wz){k2 d2:Int}{na:Option Addr}{n nc:Nat}{ka:Option Addr}{m kc:Nat}{g g':G}(hg:GAt (d+1) (fun b=>w.heap.size≤b∧b≠w.heap.size+1) wy [.int .i64 k2,.int .i64 d2,.slice na n nc,.slice ka m kc] g')(e:g'=nw (d+1) g):
  NewPost (d+1) g w (.returned (.agg #[.int .i64 k2,.int .i64 d2,.slice na n nc,.slice ka m kc])) wz:=by
 subst e
 have hm:=h.ms
 have hE:=GAt.kp (d+1)
 exact⟨k2,d2,na,n,nc,ka,m,kc,rfl,(h.fr.trans f).transNew f2 (fun b hb=>.inl (by omega)),hE.mono (fun b hb _=>hb.1) (hE.kept (fun b hb hl=>f2.block b hl (fun e=>hb.2 e.symm)) hg)⟩
theorem GAt.kd{d:Nat}{P:Nat→Prop}{w:World}{k dm:Int}{n m:Value}{g:G}(h:GAt d P w [.int .i64 k,.int .i64 dm,n,m] g):k=g.kind∧dm=g.dim∧0≤dm∧dm≤3:=by
 cases d with
 | zero=>exact h.elim
 | succ d =>
  obtain⟨nv,kv,e,_,_,_,_,_,_,h7,h8⟩:=h
  simp only[List.cons.injEq,Value.int.injEq,true_and,and_true] at e
  obtain⟨rfl,rfl,_⟩:=e
  exact⟨rfl,rfl,h7,h8⟩
theorem rows_dim{d:Nat}{P:Nat→Prop}{w:World}{v:Value}{xs:List G}(h:RowsAt (GAt d) P 4 w v xs):∀x∈xs,x.dim.toNat≤3:=by
 intro x hx
 obtain⟨i,hi,rfl⟩:=List.mem_iff_getElem.1 hx
 obtain⟨_,_,_,_,_,_,_,_,_,_,_,_,_,hE,_⟩:=kid_at h hi
 obtain⟨_,e,h0,h3⟩:=hE.kd
 rw[←e]
 omega
theorem nw_nil{d:Nat}{k dm:Int}{ns:List Nat}{ks xs:List G}(h1:kdN k≠1∧kdN k≠2)(hx:xs=(ks.map (nw d)).filter (okK (kdN k)))(hz:xs.length=0):.mk (kdN k) dm [] xs=nw (d+1) (.mk k dm ns ks):=by
 unfold nw
 rw[if_neg (not_or.2 h1),←hx,if_pos hz,List.eq_nil_of_length_eq_zero hz]
theorem nw_fo{d:Nat}{k dm:Int}{ns:List Nat}{ks xs:List G}(h1:kdN k≠1∧kdN k≠2)(hx:xs=(ks.map (nw d)).filter (okK (kdN k)))(hz:0 < xs.length):fo (d+1) (cts 3 xs) (.mk (kdN k) dm [] xs)=nw (d+1) (.mk k dm ns ks):=by
 unfold nw
 rw[if_neg (not_or.2 h1),←hx,if_neg (by omega)]
theorem nw_fq2{d:Nat}{k dm kn:Int}{ks xs:List G}(hx:xs=(ks.map (nw d)).filter (okK kn))(h3:∀x∈xs,x.dim.toNat≤3):FQ (d+1) (cts 3 xs) (.mk k dm [] xs):=by
 refine nw_fq (fun x h=>⟨?_,h3 x h⟩)
 rw[hx] at h
 obtain⟨y,_,rfl⟩:=List.mem_map.1 (List.mem_filter.1 h).1
 exact nw_UD d y
theorem new19_whole(d:Nat)(P:Nat→Prop)(w:World)(k dm:Int)(n m:Value)(g:G)(h:GAt (d+1) P w [.int .i64 k,.int .i64 dm,n,m] g)(hk12:kdN k≠1∧kdN k≠2)
  (IH0:∀(P:Nat→Prop) (w:World) (k dm:Int) (n m:Value) (g:G),GAt d P w [.int .i64 k,.int .i64 dm,n,m] g→Calls Tryz.prog 19 #[gv k dm n m] w (NewPost d g w)):Calls Tryz.prog 19 #[gv k dm n m] w (NewPost (d+1) g w):=by
 have IH:=zH IH0
 obtain⟨k',dm',na,N,nc,ka,M,kc,ns,ks,rfl,e,hN,hM,hNc,hMc,hN3,hM4,hk0,hk15,hd0,hd3,hNS,hK⟩:=h.parts
 simp only[List.cons.injEq,Value.int.injEq,true_and,and_true] at e
 obtain⟨e1,e2,e3,e4⟩:=e
 subst e1 e2 e3 e4
 obtain⟨dn,hdn⟩:∃dn:Nat,dm=(dn:Int):=⟨dm.toNat,by omega⟩
 subst hdn
 have e3:=and_3 (a:=dn) (by omega)
 have HK:=zH hK
 have HM:=zH hM
 obtain⟨i0,hi0,hz0,hz1,hz2⟩:=info_parts info27
 obtain⟨s0,f0,b0,b1,b2⟩:=foW_cells w k dn dn (.slice na N nc) (.slice ka M kc)
 have H0:=zH (FoAt.new d w k dn dn (.slice na N nc) (.slice ka M kc))
 obtain⟨w0,hw0⟩:∃w0,w0=foW w k dn dn (.slice na N nc) (.slice ka M kc):=⟨_,rfl⟩
 rw[←hw0] at s0 f0 b0 b1 b2 H0
 have HW0:=zH hw0
 have HKN:Hid (kdN k=(if 6 < k then 0 else k)):=rfl
 obtain⟨kn,hkn⟩:∃kn,kn=kdN k:=⟨_,rfl⟩
 rw[←hkn] at hk12 HKN
 have hkn1:(kn == 1)=false:=by simp[hk12.1]
 have hkn2:(kn == 2)=false:=by simp[hk12.2]
 obtain⟨z6,hz6⟩:∃z,decide (6 < k)=z:=⟨_,rfl⟩
 have hneg:decide (k < 0)=false:=by simp;omega
 have HZ6:=zH hz6
 have HN:=zH hkn
 have HK12:=zH hk12
 obtain⟨p0,p1,p2,p3⟩:=bx_cells b0
 obtain⟨o0,o1,o2,o3,of⟩:=g_cells (b:=w.heap.size+1+1) b2
 clear h hNS hK hw0 hN hM f0 b0 b1 b2 hkn hk12 IH0
 unfold gv
 go_enter Tryz.func19,Tryz.ntmps19
 go_upto_region 2 with fail
 unfold foW at HW0
 rw[←HW0.out]
 go_upto_if 22 with fail
 go_cut [] from 23 to 23 (fun wr=>Hid (FoAt d w #[.int .i64 k,.int .i64 dn,.slice na N nc,.slice ka M kc] kn dn (.slice none 0 0) [] (w.heap.size+3) 0 (.slice none 0 0) [] wr))
 case first =>
  cases z6
  rotate_left
  ·have hk0:kn=0:=by rw[HKN.out,if_pos (by simpa using HZ6.out)]
   have HR:=zH (H0.out.setK 0)
   subst hk0
   go_wp2_with fail
   go_meet
   exact HR.out
  ·have hk0:kn=k:=by rw[HKN.out,if_neg (by simpa using HZ6.out)]
   have HR:Hid (FoAt d w #[.int .i64 k,.int .i64 dn,.slice na N nc,.slice ka M kc] kn dn (.slice none 0 0) [] (w.heap.size+3) 0 (.slice none 0 0) [] w0):=by show FoAt _ _ _ _ _ _ _ _ _ _ _ _;rw[hk0];exact H0.out
   clear hk0
   go_wp2_with fail
   go_meet
   exact HR.out
 case rest =>
  have HB:=hcut
  clear hcut H0 p0 p1 p2 p3 o0 o1 o2 o3 of HW0 s0
  obtain⟨p0,p1,p2,p3⟩:=bx_cells HB.out.box
  obtain⟨o0,o1,o2,o3,of⟩:=g_cells (b:=w.heap.size+1+1) HB.out.o
  have C36:Hid (Calls Tryz.prog 36 #[.int .i64 kn] wc fun e w'=>e=.returned (.bool false)∧wc=w'):=(leaf36 kn wc).mono (fun e w' h=>by rw[hkn1,hkn2] at h;exact h)
  go_wp2_with (go_at_call 36;refine C36.out.mono ?_;rintro e w' ⟨rfl,rfl⟩)
  go_loopw [5,55] (fun cv iv wr=>∃(i j c:Nat) (va:Option Addr) (vc:Nat) (xs:List G),cv=.int .i64 c∧iv=.int .i64 (i:Int)∧i≤M∧j≤i∧Hid (c=cts 3 xs∧c≤3∧xs=((ks.take i).map (nw d)).filter (okK kn)∧FoAt d w #[.int .i64 k,.int .i64 dn,.slice na N nc,.slice ka M kc] kn dn (.slice none 0 0) [] (w.heap.size+3) j (.slice va j vc) xs wr)) (fun _ iv _=>M - (intOf iv).toNat)
  case atStart=>exact⟨0,0,3,none,0,[],rfl,rfl,Nat.zero_le _,Nat.zero_le _,rfl,Nat.le_refl _,rfl,HB.out⟩
  case round =>
   obtain⟨i,j,c,va,vc,xs,rfl,rfl,hi,hj,hrel⟩:=hrel
   clear p0 p1 p2 p3 o0 o1 o2 o3 of
   by_cases hlt:i < M
   ·obtain⟨b,o,k',dm',na',N',nc',ka',M',kc',⟨cap,hab⟩,hb,_,hE,c0,c1,c2,c3⟩:=kid_at HK.out (i:=i) (by rw[←HM.out];exact hlt)
    injection hab with hab hab2 hab3
    clear hab2 hab3
    subst hab
    have FF:=zH hrel.out.2.2.2
    have HX0:=zH hrel.out.2.2.1
    have hc3:=hrel.out.2.1
    have HC:=zH hrel.out.1
    have c0':=FF.out.fr.cell c0 (by simp)
    have c1':=FF.out.fr.cell c1 (by simp)
    have c2':=FF.out.fr.cell c2 (by simp)
    have c3':=FF.out.fr.cell c3 (by simp)
    clear c0 c1 c2 c3 hrel
    obtain⟨x,hx⟩:∃x,x=ks[i]'(by rw[←HM.out];exact hlt):=⟨_,rfl⟩
    rw[←hx] at hE
    have HX:Hid (((ks.take (i+1)).map (nw d)).filter (okK kn)=((ks.take i).map (nw d)).filter (okK kn)++[nw d x].filter (okK kn)):=by show _=_;rw[List.take_succ_eq_append_getElem (by rw[←HM.out];exact hlt),List.map_append,List.filter_append,hx];rfl
    obtain⟨wk,hwk⟩:∃wk,wk=wr.alloc (.cells #[.int .i64 k',.int .i64 dm',.slice na' N' nc',.slice ka' M' kc'] 27):=⟨_,rfl⟩
    have fk:ZF wr wk:=by rw[hwk];exact (Fr.refl _ wr).alloc _
    have bk:wk.heap[wr.heap.size]?=some (.cells #[.int .i64 k',.int .i64 dm',.slice na' N' nc',.slice ka' M' kc'] 27 (0,0)):=by rw[hwk];exact zN wr _
    have C19:Hid (Calls Tryz.prog 19 #[gv k' dm' (.slice na' N' nc') (.slice ka' M' kc')] wk (NewPost d x wk)):=IH.out _ _ _ _ _ _ _ ((GAt.kp d).kept (fun b _ hl=>(FF.out.fr.trans fk).block b hl (fun h=>h)) hE)
    have BK:=zH bk
    have FK:=zH fk
    have HWK:=zH hwk
    clear hx fk hE hwk bk hb
    go_upto_region 14 with fail
    rw[←HWK.out]
    clear c0' c1' c2' c3'
    unfold gv at C19
    obtain⟨p0,p1,p2,p3⟩:=bx_cells BK.out
    go_upto_region 15 with (go_at_call 19;refine C19.out.mono ?_;rintro e w4 ⟨kx,dx,ra,rn,rc,sa,sn,sc,rfl,hp⟩)
    obtain⟨w5,hw5⟩:∃w5,w5=w4.alloc (.cells #[.int .i64 kx,.int .i64 dx,.slice ra rn rc,.slice sa sn sc] 27):=⟨_,rfl⟩
    rw[←hw5]
    have f5:ZF wr w5:=by rw[hw5];exact ((FK.out.trans hp.out.1).alloc _)
    have b8:w5.heap[w4.heap.size]?=some (.cells #[.int .i64 kx,.int .i64 dx,.slice ra rn rc,.slice sa sn sc] 27 (0,0)):=by rw[hw5];exact zN w4 _
    have g5:GAt d (fun b=>wr.heap.size≤b) w5 [.int .i64 kx,.int .i64 dx,.slice ra rn rc,.slice sa sn sc] (nw d x):=by
     rw[hw5]
     exact (GAt.kp d).mono (fun b hb _=>by have:=FK.out.size;omega) ((GAt.kp d).kept (fun b _ hl=>Below.heap_alloc w4 _ b hl) hp.out.2)
    have FO5:=zH (FF.out.run f5)
    have F5:=zH f5
    have G5:=zH g5
    have B8:=zH b8
    have W48:Hid (wr.heap.size≤w4.heap.size∧w4.heap.size < (w5.drewN 0).heap.size):=⟨by have h1:=hp.out.1.size;have h2:=FK.out.size;omega,by rw[hw5];show _ < (w4.heap.push _).size;rw[Array.size_push];omega⟩
    obtain⟨hkx,hdx,hdx0,hdx3⟩:=g5.kd
    obtain⟨dxn,hdxn⟩:∃t:Nat,dx=(t:Int):=⟨dx.toNat,by omega⟩
    subst hdxn
    obtain⟨z7,hz7⟩:∃z,decide (kdO kn < 0)=z:=⟨_,rfl⟩
    obtain⟨z8,hz8⟩:∃z,(kdO kn == kx)=z:=⟨_,rfl⟩
    have HOK:Hid (okK kn (nw d x)=(z7 || z8)):=by show _=_;unfold okK;rw[←hkx,hz7,hz8]
    have HDX:=zH hdx
    have e4:=and_i64 (a:=c) (b:=dxn) hc3 (by omega)
    clear hp hw5 f5 b8 g5 p0 p1 p2 p3 BK FK HWK C19 hkx hdx
    obtain⟨p0,p1,p2,p3⟩:=bx_cells B8.out
    obtain⟨o0,o1,o2,o3,of⟩:=g_cells (b:=w.heap.size+1+1) FO5.out.o
    have c38:=kid38
    cases z7
    ·cases z8
     ·go_quiet ((go_at_call 38;exact Calls.quiet_of_same (kid38 _ _)))
      rename_i nq
      have HR:=zH (FO5.out.run ((Fr.refl _ _).drewN nq))
      have HF:Hid (((ks.take (i+1)).map (nw d)).filter (okK kn)=xs):=by show _=_;rw[HX.out,List.filter_cons,HOK.out,←HX0.out];simp
      clear FF FO5 F5 G5 B8 HX HX0 HOK HDX
      go_wp2_with fail
      go_roundw
      case rel=>exact⟨i+1,j,c,va,vc,xs,rfl,by go_num,by omega,by omega,HC.out,hc3,HF.out.symm,HR.out⟩
      case measure=>simp[intOf];omega
     ·go_quiet ((go_at_call 38;exact Calls.quiet_of_same (kid38 _ _)))
      rename_i nq
      have f6:ZF wr (w5.drewN nq):=F5.out.drewN nq
      obtain⟨cs,hown,hnx⟩:=FF.out.next f6 ((GAt.kp d).kept (fun b _ hl=>((Fr.refl (fun _=>False) w5).drewN nq).block b hl (fun h=>h)) G5.out)
      have OWN:=zH hown
      have NX:=zH hnx
      have K3:Hid (j+1≤maxLen):=by show _≤_;unfold maxLen;omega
      have K4:Hid ((j+1)*64≤140737488355328):=by show _≤_;omega
      have K5:Hid (w.heap.size+3≤((w5.drewN nq).alloc (.cells #[.int .i64 kx,.int .i64 dxn,.slice ra rn rc,.slice sa sn sc] 27)).heap.size):=by
       have h1:=F5.out.size
       have h2:=FF.out.ms.2
       show _≤(w5.heap.push _).size
       rw[Array.size_push]
       omega
      have K7:Hid (((w5.drewN nq).alloc (.cells #[.int .i64 kx,.int .i64 dxn,.slice ra rn rc,.slice sa sn sc] 27)).ownsRow (w.heap.size+3) 27 4 (.slice va j vc) j cs):=OWN.out.alloc _
      clear hown hnx f6
      go_upto_region 17 with (at_builtin;refine wpList_append_own_at _ rfl _ _ 25 rfl (w.heap.size+3) 27 i0 (.agg #[.int .i64 0,.int .i64 0,.slice none 0 0,.slice none 0 0]) 4 64 Tryz.underlying25 hi0 hz0 hz1 hz2 rfl (by decide) _ j cs rfl K7.out ⟨_,0,none⟩ 1 1 [.int .i64 kx,.int .i64 dxn,.slice ra rn rc,.slice sa sn sc] rfl rfl (cell4_new _ _ _ _ _ _) (four_one _ _ _ _ _ _ _ _) K3.out K4.out K5.out ?_;intro v' w7 hown1 hgrow1 _ hat;obtain⟨g6,cap6,rfl,_,_⟩:=own_capE hown1 (Nat.succ_pos _);have HH:=zH (NX.out _ _ _ hown1 hgrow1 hat);clear hown1 hgrow1 hat;obtain⟨o0,o1,o2,o3,of⟩:=g_cells (b:=w.heap.size+1+1) HH.out.1;obtain⟨p0,p1,p2,p3⟩:=bx_cells ((HH.out.2.1 _ W48.out.1 W48.out.2).trans B8.out))
      obtain⟨w8,hw8⟩:∃w8,w8=w7.setCell ⟨w.heap.size+1+1,3,none⟩ (.slice (some ⟨g6,0,none⟩) (j+1) cap6):=⟨_,rfl⟩
      have HR:Hid (FoAt d w #[.int .i64 k,.int .i64 dn,.slice na N nc,.slice (some ⟨b,o,none⟩) M kc] kn dn (.slice none 0 0) [] (w.heap.size+3) (j+1) (.slice (some ⟨g6,0,none⟩) (j+1) cap6) (xs++[nw d x]) w8):=by show FoAt _ _ _ _ _ _ _ _ _ _ _ _;rw[hw8];exact HH.out.2.2
      have q1:w8.cell? ⟨w4.heap.size,1,none⟩=some (.int .i64 dxn):=by
       have h1:=FF.out.ms
       have h2:=W48.out.1
       rw[hw8,zC ((Below.heap_setCell w7 ⟨w.heap.size+1+1,3,none⟩ _ w4.heap.size (by show ¬w4.heap.size=w.heap.size+1+1;omega)).trans ((HH.out.2.1 _ W48.out.1 W48.out.2).trans B8.out))]
       rfl
      rw[←hw8]
      have HF:Hid (((ks.take (i+1)).map (nw d)).filter (okK kn)=xs++[nw d x]):=by show _=_;rw[HX.out,List.filter_cons,HOK.out,←HX0.out];simp
      have HC2:Hid ((c &&& dxn)=cts 3 (xs++[nw d x])):=by show _=_;rw[cts_snoc,←HC.out,←HDX.out,Int.toNat_natCast]
      have hc4:=(and_wd hc3 (b:=dxn) (by omega)).1
      clear hw8 FF FO5 F5 G5 B8 HX HX0 HOK HDX HH NX OWN K7 K5 W48 o0 o1 o2 o3 of p0 p1 p2 p3 HC
      go_wp2_with fail
      go_roundw
      case rel=>exact⟨i+1,j+1,c &&& dxn,_,_,_,rfl,by go_num,by omega,by omega,HC2.out,hc4,HF.out.symm,HR.out⟩
      case measure=>simp[intOf];omega
    ·go_quiet ((go_at_call 38;exact Calls.quiet_of_same (kid38 _ _)))
     rename_i nq
     have f6:ZF wr (w5.drewN nq):=F5.out.drewN nq
     obtain⟨cs,hown,hnx⟩:=FF.out.next f6 ((GAt.kp d).kept (fun b _ hl=>((Fr.refl (fun _=>False) w5).drewN nq).block b hl (fun h=>h)) G5.out)
     have OWN:=zH hown
     have NX:=zH hnx
     have K3:Hid (j+1≤maxLen):=by show _≤_;unfold maxLen;omega
     have K4:Hid ((j+1)*64≤140737488355328):=by show _≤_;omega
     have K5:Hid (w.heap.size+3≤((w5.drewN nq).alloc (.cells #[.int .i64 kx,.int .i64 dxn,.slice ra rn rc,.slice sa sn sc] 27)).heap.size):=by
      have h1:=F5.out.size
      have h2:=FF.out.ms.2
      show _≤(w5.heap.push _).size
      rw[Array.size_push]
      omega
     have K7:Hid (((w5.drewN nq).alloc (.cells #[.int .i64 kx,.int .i64 dxn,.slice ra rn rc,.slice sa sn sc] 27)).ownsRow (w.heap.size+3) 27 4 (.slice va j vc) j cs):=OWN.out.alloc _
     clear hown hnx f6
     go_upto_region 17 with (at_builtin;refine wpList_append_own_at _ rfl _ _ 25 rfl (w.heap.size+3) 27 i0 (.agg #[.int .i64 0,.int .i64 0,.slice none 0 0,.slice none 0 0]) 4 64 Tryz.underlying25 hi0 hz0 hz1 hz2 rfl (by decide) _ j cs rfl K7.out ⟨_,0,none⟩ 1 1 [.int .i64 kx,.int .i64 dxn,.slice ra rn rc,.slice sa sn sc] rfl rfl (cell4_new _ _ _ _ _ _) (four_one _ _ _ _ _ _ _ _) K3.out K4.out K5.out ?_;intro v' w7 hown1 hgrow1 _ hat;obtain⟨g6,cap6,rfl,_,_⟩:=own_capE hown1 (Nat.succ_pos _);have HH:=zH (NX.out _ _ _ hown1 hgrow1 hat);clear hown1 hgrow1 hat;obtain⟨o0,o1,o2,o3,of⟩:=g_cells (b:=w.heap.size+1+1) HH.out.1;obtain⟨p0,p1,p2,p3⟩:=bx_cells ((HH.out.2.1 _ W48.out.1 W48.out.2).trans B8.out))
     obtain⟨w8,hw8⟩:∃w8,w8=w7.setCell ⟨w.heap.size+1+1,3,none⟩ (.slice (some ⟨g6,0,none⟩) (j+1) cap6):=⟨_,rfl⟩
     have HR:Hid (FoAt d w #[.int .i64 k,.int .i64 dn,.slice na N nc,.slice (some ⟨b,o,none⟩) M kc] kn dn (.slice none 0 0) [] (w.heap.size+3) (j+1) (.slice (some ⟨g6,0,none⟩) (j+1) cap6) (xs++[nw d x]) w8):=by show FoAt _ _ _ _ _ _ _ _ _ _ _ _;rw[hw8];exact HH.out.2.2
     have q1:w8.cell? ⟨w4.heap.size,1,none⟩=some (.int .i64 dxn):=by
      have h1:=FF.out.ms
      have h2:=W48.out.1
      rw[hw8,zC ((Below.heap_setCell w7 ⟨w.heap.size+1+1,3,none⟩ _ w4.heap.size (by show ¬w4.heap.size=w.heap.size+1+1;omega)).trans ((HH.out.2.1 _ W48.out.1 W48.out.2).trans B8.out))]
      rfl
     rw[←hw8]
     have HF:Hid (((ks.take (i+1)).map (nw d)).filter (okK kn)=xs++[nw d x]):=by show _=_;rw[HX.out,List.filter_cons,HOK.out,←HX0.out];simp
     have HC2:Hid ((c &&& dxn)=cts 3 (xs++[nw d x])):=by show _=_;rw[cts_snoc,←HC.out,←HDX.out,Int.toNat_natCast]
     have hc4:=(and_wd hc3 (b:=dxn) (by omega)).1
     clear hw8 FF FO5 F5 G5 B8 HX HX0 HOK HDX HH NX OWN K7 K5 W48 o0 o1 o2 o3 of p0 p1 p2 p3 HC
     go_wp2_with fail
     go_roundw
     case rel=>exact⟨i+1,j+1,c &&& dxn,_,_,_,rfl,by go_num,by omega,by omega,HC2.out,hc4,HF.out.symm,HR.out⟩
     case measure=>simp[intOf];omega
   ·have hiM:i=M:=by omega
    subst hiM
    have FF:=zH hrel.out.2.2.2
    have hc3:=hrel.out.2.1
    have HC:=zH hrel.out.1
    have HX:Hid (xs=(ks.map (nw d)).filter (okK kn)):=by
     have h1:=hrel.out.2.2.1
     rw[List.take_of_length_le (by rw[←HM.out];omega)] at h1
     exact h1
    have hkb:0≤kn∧kn≤15:=by rw[HKN.out];split<;>omega
    have HG:=zH (FF.out.gat hkb.1 hkb.2 (Int.natCast_nonneg dn) hd3 (Nat.zero_le _) (by omega))
    clear hrel
    obtain⟨p0,p1,p2,p3,pf⟩:=g_cells (b:=w.heap.size+1+1) FF.out.o
    obtain⟨r0,r1,r2,r3,rf⟩:=g_cells (b:=w.heap.size+1) FF.out.res
    rcases Nat.eq_zero_or_pos j with hz|hz
    ·subst hz
     have hfin:=zH (FF.out.newp (Fr.refl _ wr) (fr4 wr (w.heap.size+1) (.int .i64 kn) (.int .i64 dn) (.slice none 0 0) (.slice va 0 vc)) HG.out (by rw[HN.out];exact nw_nil (ns:=ns) (by rw[←HN.out];exact HK12.out) (by rw[←HN.out];exact HX.out) FF.out.len))
     go_wp2_with fail
     exact bodyPost_ret (v:=.agg #[.int .i64 kn,.int .i64 dn,.slice none 0 0,.slice va 0 vc]) (by simp[results,Tryz.f19,go_sem,r0,r1,r2,r3]) rfl hfin.out
    ·have C39:Hid (Calls Tryz.prog 39 #[.agg #[.int .i64 kn,.int .i64 dn,.slice none 0 0,.slice va j vc],.int .i64 c] wr (ForcePost (d+1) c kn (.mk kn dn [] xs) wr)):=force39 (d+1) _ wr kn dn _ _ c _ hc3 HG.out (by rw[HC.out];exact nw_fq2 HX.out (rows_dim (FF.out.own.done (GAt.kp d) (by decide))))
     have HJ:Hid (0 < xs.length):=by show _ < _;rw[FF.out.len];exact hz
     go_wp2_with (go_at_call 39;refine C39.out.mono ?_;rintro e w4 ⟨ra,rn,rc,sa,sn,sc,rfl,hp⟩;obtain⟨r0,r1,r2,r3,rf⟩:=g_cells (b:=w.heap.size+1) ((hp.out.1.block _ (zG FF.out.res).1 (fun h=>h)).trans FF.out.res))
     have hfin:=zH (FF.out.newp hp.out.1 (fr4 w4 (w.heap.size+1) (.int .i64 kn) (.int .i64 c) (.slice ra rn rc) (.slice sa sn sc)) ((GAt.kp (d+1)).mono (fun b hb _=>by have h1:=FF.out.ms;omega) hp.out.2) (by rw[HC.out,HN.out];exact nw_fo (ns:=ns) (by rw[←HN.out];exact HK12.out) (by rw[←HN.out];exact HX.out) HJ.out))
     exact bodyPost_ret (v:=.agg #[.int .i64 kn,.int .i64 c,.slice ra rn rc,.slice sa sn sc]) (by simp[results,Tryz.f19,go_sem,r0,r1,r2,r3]) rfl hfin.out
end Go.Proofs.YtnjjgbcmjnfijaaGreatDoor
