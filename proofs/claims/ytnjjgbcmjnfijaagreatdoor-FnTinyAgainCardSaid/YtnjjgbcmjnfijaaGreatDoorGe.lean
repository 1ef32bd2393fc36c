/- Trees of the reference: places and numbers. No condition. -/
import Derived.Test.YtnjjgbcmjnfijaaGreatDoorGc
namespace Go.Proofs.YtnjjgbcmjnfijaaGreatDoor
set_option maxRecDepth 100000
set_option maxHeartbeats 4000000
open Go.RowKit
def wd (d:Nat):Nat:=2+d % 2+d / 2 % 2
abbrev Plc:=Nat × Nat × Nat × Nat
def plc (d:Nat) (xs:List Nat) (i:Nat):Plc:=(xs.getD (i*wd d) 0,xs.getD (i*wd d+1) 0,if d % 2=1 then xs.getD (i*wd d+2) 0 else 0,if d / 2 % 2=1 then xs.getD (i*wd d+wd d - 1) 0 else 0)
def places (d:Nat) (xs:List Nat):List Plc:=(List.range (xs.length / wd d)).map (plc d xs)
def plCells (p:Plc):List Value:=[flv p.1,flv p.2.1,flv p.2.2.1,flv p.2.2.2]
def numsOf (d:Nat) (p:Plc):List Nat:=[p.1,p.2.1]++(if d % 2=1 then [p.2.2.1] else [])++(if d / 2 % 2=1 then [p.2.2.2] else [])
def nums (d:Nat) (ps:List Plc):List Nat:=ps.flatMap (numsOf d)
theorem wd_pos(d:Nat):2≤wd d∧wd d≤4:=by unfold wd;omega
theorem numsOf_len(d:Nat)(p:Plc):(numsOf d p).length=wd d:=by
 unfold numsOf wd
 have h1:d % 2=0∨d % 2=1:=by omega
 have h2:d / 2 % 2=0∨d / 2 % 2=1:=by omega
 rcases h1 with h1|h1<;>rcases h2 with h2|h2<;>simp[h1,h2]
theorem nums_len(d:Nat):∀ps:List Plc,(nums d ps).length=ps.length*wd d
 | []=>by simp[nums]
 | p :: ps=>by
  have:=nums_len d ps
  unfold nums at this ⊢
  rw[List.flatMap_cons,List.length_append,numsOf_len,this,List.length_cons,Nat.succ_mul,Nat.add_comm]
theorem numsOf_plc(d:Nat)(hd:d≤3)(xs:List Nat)(i:Nat)(h:i*wd d+wd d≤xs.length):numsOf d (plc d xs i)=(xs.drop (i*wd d)).take (wd d):=by
 have hc:d=0∨d=1∨d=2∨d=3:=by omega
 have hl:wd d≤(xs.drop (i*wd d)).length:=by rw[List.length_drop];omega
 have key:∀(ys:List Nat),wd d≤ys.length→ys.take (wd d)=(List.range (wd d)).map (fun k=>ys.getD k 0):=by
  intro ys hy
  apply List.ext_getElem (by simp[hy])
  intro k h1 h2
  simp only[List.length_map,List.length_range] at h2
  simp[List.getD_eq_getElem?_getD,show k < ys.length by omega]
 rw[key _ hl]
 unfold numsOf plc
 rcases hc with rfl|rfl|rfl|rfl
 ·simp only[wd]
  simp[List.range_succ]
 ·simp only[wd]
  simp[List.range_succ]
 ·simp only[wd]
  simp[List.range_succ]
 ·simp only[wd]
  simp[List.range_succ]
theorem nums_take(d:Nat)(hd:d≤3)(xs:List Nat):∀n,n*wd d≤xs.length→nums d ((List.range n).map (plc d xs))=xs.take (n*wd d)
 | 0,_=>by simp[nums]
 | n+1,h=>by
  rw[Nat.succ_mul] at h
  have:=nums_take d hd xs n (by omega)
  rw[List.range_succ,List.map_append]
  unfold nums at this ⊢
  rw[List.flatMap_append,this,Nat.succ_mul,List.take_add]
  simp[numsOf_plc d hd xs n (by omega)]
theorem nums_places(d:Nat)(hd:d≤3)(xs:List Nat)(h:xs.length % wd d=0):nums d (places d xs)=xs:=by
 unfold places
 have hw:=wd_pos d
 have e:xs.length / wd d*wd d=xs.length:=Nat.div_mul_cancel (Nat.dvd_of_mod_eq_zero h)
 rw[nums_take d hd xs _ (by omega),e,List.take_length]
theorem info249:(Tryz.prog.info? 249).map (fun i=>(i.zero,i.size,i.bytes))=some (some (.agg #[.float .f64 0,.float .f64 0,.float .f64 0,.float .f64 0]),4,32):=by kernel_rfl
theorem NumsAt.at2{P:Nat→Prop}{w:World}{v:Value}{xs:List Nat}(h:NumsAt P w v xs):∃a cap,v=.slice a xs.length cap∧xs.length≤cap∧(0 < xs.length→∃b o,a=some ⟨b,o,none⟩∧P b∧∀k,k < xs.length→w.cell? ⟨b,o+k,none⟩=some (.float .f64 (xs.getD k 0))):=by
 obtain⟨_,a,cap,rfl,h2,_,h4⟩:=h
 refine⟨a,cap,rfl,h2,fun hn=>?_⟩
 obtain⟨b,o,rfl,hp,hc⟩:=h4 hn
 exact⟨b,o,rfl,hp,fun k hk=>hc k _ (by simp[hk,flv,List.getD_eq_getElem?_getD])⟩
theorem cells4_new(w:World)(c0 c1 c2 c3:Value)(t:TypeId):∀j u,[c0,c1,c2,c3][j]?=some u→(w.alloc (.cells #[c0,c1,c2,c3] t)).cell? ((⟨w.heap.size,0,none⟩:Addr).add j)=some u:=cell4_new w c0 c1 c2 c3 t
theorem width37_0(w:World):Calls Tryz.prog 37 #[.int .i64 0] w fun e w'=>e=.returned (.int .i64 2)∧w=w':=by
 have e1:bits .and .i64 0 1=0:=by decide
 have e2:bits .and .i64 0 1=0:=by decide
 go_enter Tryz.func37,Tryz.ntmps37
 go_wp2_with fail
 go_ret
 exact⟨rfl,rfl⟩
theorem width37_1(w:World):Calls Tryz.prog 37 #[.int .i64 1] w fun e w'=>e=.returned (.int .i64 3)∧w=w':=by
 have e1:bits .and .i64 1 1=1:=by decide
 have e2:bits .and .i64 0 1=0:=by decide
 go_enter Tryz.func37,Tryz.ntmps37
 go_wp2_with fail
 go_ret
 exact⟨rfl,rfl⟩
theorem width37_2(w:World):Calls Tryz.prog 37 #[.int .i64 2] w fun e w'=>e=.returned (.int .i64 3)∧w=w':=by
 have e1:bits .and .i64 2 1=0:=by decide
 have e2:bits .and .i64 1 1=1:=by decide
 go_enter Tryz.func37,Tryz.ntmps37
 go_wp2_with fail
 go_ret
 exact⟨rfl,rfl⟩
theorem width37_3(w:World):Calls Tryz.prog 37 #[.int .i64 3] w fun e w'=>e=.returned (.int .i64 4)∧w=w':=by
 have e1:bits .and .i64 3 1=1:=by decide
 have e2:bits .and .i64 1 1=1:=by decide
 go_enter Tryz.func37,Tryz.ntmps37
 go_wp2_with fail
 go_ret
 exact⟨rfl,rfl⟩
def PlcPost (d:Nat) (xs:List Nat) (w:World) (e:Ending) (w':World):Prop :=
 ∃(a:Option Addr) (n c:Nat),e=.returned (.slice a n c)∧Hid (n=(places d xs).length∧ZF w w'∧w'.ownsRow w.heap.size 249 4 (.slice a n c) n ((places d xs).flatMap plCells))
theorem places102_0(P:Nat→Prop)(v:Value)(xs:List Nat)(w:World)(h:NumsAt P w v xs)(hl:xs.length≤100000):Calls Tryz.prog 102 #[v,.int .i64 0] w (PlcPost 0 xs w):=by
 obtain⟨a,cap,rfl,hcp,hc⟩:=h.at2
 obtain⟨N,hN⟩:∃N,N=xs.length:=⟨_,rfl⟩
 obtain⟨i0,hi0,hz0,hz1,hz2⟩:=info_parts info249
 have HC:=zH hc
 have HN:=zH hN
 have HWD:=zH width37_0
 rw[←hN] at hcp ⊢
 have hNl:N≤100000:=by omega
 have hst:=st_fl
 have e1:bits .and .i64 0 1=0:=by decide
 have e2:bits .and .i64 0 2=0:=by decide
 clear hc h hN hl
 go_enter Tryz.func102,Tryz.ntmps102
 go_upto_region 3 with (go_at_call 37;refine (HWD.out _).mono ?_;rintro e w' ⟨rfl,rfl⟩)
 go_wp2_with fail
 go_loopw [5,7] (fun vv iv wr=>∃(i j:Nat) (v:Value),iv=.int .i64 (j:Int)∧vv=v∧j≤N∧Hid (j=i*2∧ZF w wr∧wr.ownsRow w.heap.size 249 4 v i (((List.range i).map (plc 0 xs)).flatMap plCells))) (fun _ iv _=>N - (intOf iv).toNat)
 case atStart=>exact⟨0,0,_,rfl,rfl,Nat.zero_le _,by omega,Fr.refl _ _,World.ownsRow_nil _ _ _ _⟩
 case round =>
  obtain⟨i,j,v,rfl,rfl,hj,hrel⟩:=hrel
  by_cases hlt:j+2≤N
  ·obtain⟨b,o,hab,_,hcell⟩:=HC.out (by rw[←HN.out];omega)
   subst hab
   obtain⟨x0,hx0⟩:∃x,x=xs.getD (j+0) 0:=⟨_,rfl⟩
   have c0:wr.cell? ⟨b,o+j,none⟩=some (.float .f64 x0):=by rw[hx0];exact hrel.out.2.1.cell (hcell (j+0) (by rw[←HN.out];omega)) (by simp)
   obtain⟨x1,hx1⟩:∃x,x=xs.getD (j+1) 0:=⟨_,rfl⟩
   have c1:wr.cell? ⟨b,o+(j+1),none⟩=some (.float .f64 x1):=by rw[hx1];exact hrel.out.2.1.cell (hcell (j+1) (by rw[←HN.out];omega)) (by simp)
   have HX:Hid (plc 0 xs i=(x0,x1,0,0)):=by
    have hji:=hrel.out.1
    show _=_
    unfold plc wd
    rw[hx0,hx1,hji]
    rfl
   have nb:wr.heap.size≠b:=World.new_ne wr _ c0
   have K3:Hid (i+1≤maxLen):=by show _≤_;have:=hrel.out.1;unfold maxLen;omega
   have K4:Hid ((i+1)*32≤140737488355328):=by show _≤_;have:=hrel.out.1;omega
   have OWN:=zH hrel.out.2.2
   have hsz:w.heap.size≤wr.heap.size:=hrel.out.2.1.size
   clear hx0 hx1 hcell
   have b0:(0:Int)≤(j:Int):=by omega
   have b1:(j:Int) < (N:Int):=by omega
   have b2:(j:Int)+1 < (N:Int):=by omega
   have b3:(0:Int)≤(j:Int)+1:=by omega
   have b4:IntKind.i64.wrap ((j:Int)+1)=(j:Int)+1:=IntWalk.i64_in _ ⟨by omega,by omega⟩
   have b5:((j:Int)+1).toNat=j+1:=by omega
   go_upto_region 6 with fail
   go_region_held3 (fun w'=>w'.cell? ⟨b,o+j,none⟩=some (.float .f64 x0)∧w'.cell? ⟨b,o+(j+1),none⟩=some (.float .f64 x1)) (go_keep) (fail)
   clear b0 b1 b2 b3 b4 b5
   obtain⟨w4,hw4⟩:∃w4,w4=(wr.alloc (.cells #[.float .f64 x0,.float .f64 x1,.float .f64 0,.float .f64 0] 249)).drew:=⟨_,rfl⟩
   rw[←hw4]
   have H4:Hid (w4.heap[wr.heap.size]?=some (.cells #[.float .f64 x0,.float .f64 x1,.float .f64 0,.float .f64 0] 249 (0,0))∧ZF wr w4):=by
    rw[hw4];exact⟨zN wr _,((Fr.refl _ _).alloc _).drew⟩
   have q2:w4.cell? ⟨wr.heap.size,2,none⟩=some (.float .f64 0):=by rw[zC H4.out.1];rfl
   have q3:w4.cell? ⟨wr.heap.size,3,none⟩=some (.float .f64 0):=by rw[zC H4.out.1];rfl
   have qf:∀k,w4.frozen? ⟨wr.heap.size,k,none⟩=false:=fun k=>zF H4.out.1 k
   clear c0 c1 hw4
   go_upto_region 11 with fail
   obtain⟨w5,hw5⟩:∃w5,w5=w4:=⟨_,rfl⟩
   rw[←hw5]
   have H5:Hid (w5.heap[wr.heap.size]?=some (.cells #[.float .f64 x0,.float .f64 x1,.float .f64 0,.float .f64 0] 249 (0,0))∧Fr (Eq wr.heap.size) w4 w5):=by
    rw[hw5];exact⟨H4.out.1,Fr.refl _ _⟩
   have p0:w5.cell? ⟨wr.heap.size,0,none⟩=some (.float .f64 x0):=by rw[zC H5.out.1];rfl
   have p1:w5.cell? ⟨wr.heap.size,1,none⟩=some (.float .f64 x1):=by rw[zC H5.out.1];rfl
   have p2:w5.cell? ⟨wr.heap.size,2,none⟩=some (.float .f64 0):=by rw[zC H5.out.1];rfl
   have p3:w5.cell? ⟨wr.heap.size,3,none⟩=some (.float .f64 0):=by rw[zC H5.out.1];rfl
   have s4:wr.heap.size≤w4.heap.size:=H4.out.2.size
   have s5:w4.heap.size≤w5.heap.size:=H5.out.2.size
   have O5:Hid ((w5.alloc (.cells #[.float .f64 x0,.float .f64 x1,.float .f64 0,.float .f64 0] 249)).ownsRow w.heap.size 249 4 u5 i (((List.range i).map (plc 0 xs)).flatMap plCells)):=by
    refine World.ownsRow.alloc (ownsRow_keep OWN.out (fun b _ hb=>?_)) _
    rw[H5.out.2.block b (by omega) (by omega),H4.out.2.block b hb (by simp)]
   have K5:Hid (w.heap.size≤(w5.alloc (.cells #[.float .f64 x0,.float .f64 x1,.float .f64 0,.float .f64 0] 249)).heap.size):=by
    show _≤(w5.heap.push _).size
    rw[Array.size_push];omega
   have H1C:Hid (∀u∈[Value.float .f64 x0,.float .f64 x1,.float .f64 0,.float .f64 0],Value.oneCell' u=true):=by
    intro u hu
    simp only[List.mem_cons,List.not_mem_nil,or_false] at hu
    rcases hu with rfl|rfl|rfl|rfl<;>rfl
   have NX:Hid (∀(v':Value) (w7:World),w7.ownsRow w.heap.size 249 4 v' (i+1) (((List.range i).map (plc 0 xs)).flatMap plCells++[.float .f64 x0,.float .f64 x1,.float .f64 0,.float .f64 0])→(w5.alloc (.cells #[.float .f64 x0,.float .f64 x1,.float .f64 0,.float .f64 0] 249)).grownBy w7 u5.ownBlock→j+2=(i+1)*2∧ZF w w7∧w7.ownsRow w.heap.size 249 4 v' (i+1) (((List.range (i+1)).map (plc 0 xs)).flatMap plCells)):=fun v' w7 o7 g7=>by
    refine⟨by have:=hrel.out.1;omega,?_,?_⟩
    ·have f5:ZF w w5:=(hrel.out.2.1.trans H4.out.2).transNew H5.out.2 (fun b hb=>.inl (by omega))
     exact (f5.alloc _).grown g7 (fun b hb=>.inl (OWN.out.lt b hb).1)
    ·have e9:((List.range (i+1)).map (plc 0 xs)).flatMap plCells=((List.range i).map (plc 0 xs)).flatMap plCells++[.float .f64 x0,.float .f64 x1,.float .f64 0,.float .f64 0]:=by
      rw[List.range_succ,List.map_append,List.flatMap_append,List.map_singleton,HX.out]
      rfl
     rw[e9];exact o7
   clear hw5 q2 q3 qf nb
   go_upto_region 5 with (at_builtin;refine wpList_append_own _ rfl _ _ 175 rfl w.heap.size 249 i0 (.agg #[.float .f64 0,.float .f64 0,.float .f64 0,.float .f64 0]) 4 32 Tryz.underlying175 hi0 hz0 hz1 hz2 rfl (by decide) _ i (((List.range i).map (plc 0 xs)).flatMap plCells) rfl O5.out ⟨_,0,none⟩ 1 1 [.float .f64 x0,.float .f64 x1,.float .f64 0,.float .f64 0] rfl rfl (cell4_new _ _ _ _ _ _) H1C.out K3.out K4.out K5.out ?_;intro v' w7 hown1 hgrow1 _;have HH:=zH (NX.out _ _ hown1 hgrow1);clear hown1 hgrow1;refine Hid.out ?_)
   refine zH ?_
   clear p0 p1 p2 p3 O5 NX hrel OWN
   go_wp2_with fail
   go_roundw
   case rel=>exact⟨i+1,j+2,_,by go_num,rfl,hlt,HH.out⟩
   case measure=>simp[intOf];omega
  ·have hn:i=(places 0 xs).length:=by
    have:=hrel.out.1
    unfold places wd
    rw[List.length_map,List.length_range,←HN.out]
    have e:2+0 % 2+0 / 2 % 2=2:=by decide
    rw[e]
    omega
   have HF:Hid (PlcPost 0 xs w (.returned u5) wr):=by
    obtain⟨va,vc,hv⟩:=slice_shape hrel.out.2.2
    have o:=hrel.out.2.2
    rw[hv] at o ⊢
    refine⟨va,i,vc,rfl,hn,hrel.out.2.1,?_⟩
    have:places 0 xs=(List.range i).map (plc 0 xs):=by
     have h2:=hn
     unfold places at h2 ⊢
     rw[List.length_map,List.length_range] at h2
     rw[←h2]
    rw[this];exact o
   clear hrel hn
   go_wp2_with fail
   go_ret
   exact HF.out
theorem places102_1(P:Nat→Prop)(v:Value)(xs:List Nat)(w:World)(h:NumsAt P w v xs)(hl:xs.length≤100000):Calls Tryz.prog 102 #[v,.int .i64 1] w (PlcPost 1 xs w):=by
 obtain⟨a,cap,rfl,hcp,hc⟩:=h.at2
 obtain⟨N,hN⟩:∃N,N=xs.length:=⟨_,rfl⟩
 obtain⟨i0,hi0,hz0,hz1,hz2⟩:=info_parts info249
 have HC:=zH hc
 have HN:=zH hN
 have HWD:=zH width37_1
 rw[←hN] at hcp ⊢
 have hNl:N≤100000:=by omega
 have hst:=st_fl
 have e1:bits .and .i64 1 1=1:=by decide
 have e2:bits .and .i64 1 2=0:=by decide
 clear hc h hN hl
 go_enter Tryz.func102,Tryz.ntmps102
 go_upto_region 3 with (go_at_call 37;refine (HWD.out _).mono ?_;rintro e w' ⟨rfl,rfl⟩)
 go_wp2_with fail
 go_loopw [5,7] (fun vv iv wr=>∃(i j:Nat) (v:Value),iv=.int .i64 (j:Int)∧vv=v∧j≤N∧Hid (j=i*3∧ZF w wr∧wr.ownsRow w.heap.size 249 4 v i (((List.range i).map (plc 1 xs)).flatMap plCells))) (fun _ iv _=>N - (intOf iv).toNat)
 case atStart=>exact⟨0,0,_,rfl,rfl,Nat.zero_le _,by omega,Fr.refl _ _,World.ownsRow_nil _ _ _ _⟩
 case round =>
  obtain⟨i,j,v,rfl,rfl,hj,hrel⟩:=hrel
  by_cases hlt:j+3≤N
  ·obtain⟨b,o,hab,_,hcell⟩:=HC.out (by rw[←HN.out];omega)
   subst hab
   obtain⟨x0,hx0⟩:∃x,x=xs.getD (j+0) 0:=⟨_,rfl⟩
   have c0:wr.cell? ⟨b,o+j,none⟩=some (.float .f64 x0):=by rw[hx0];exact hrel.out.2.1.cell (hcell (j+0) (by rw[←HN.out];omega)) (by simp)
   obtain⟨x1,hx1⟩:∃x,x=xs.getD (j+1) 0:=⟨_,rfl⟩
   have c1:wr.cell? ⟨b,o+(j+1),none⟩=some (.float .f64 x1):=by rw[hx1];exact hrel.out.2.1.cell (hcell (j+1) (by rw[←HN.out];omega)) (by simp)
   obtain⟨x2,hx2⟩:∃x,x=xs.getD (j+2) 0:=⟨_,rfl⟩
   have c2:wr.cell? ⟨b,o+(j+2),none⟩=some (.float .f64 x2):=by rw[hx2];exact hrel.out.2.1.cell (hcell (j+2) (by rw[←HN.out];omega)) (by simp)
   have HX:Hid (plc 1 xs i=(x0,x1,x2,0)):=by
    have hji:=hrel.out.1
    show _=_
    unfold plc wd
    rw[hx0,hx1,hx2,hji]
    rfl
   have nb:wr.heap.size≠b:=World.new_ne wr _ c0
   have K3:Hid (i+1≤maxLen):=by show _≤_;have:=hrel.out.1;unfold maxLen;omega
   have K4:Hid ((i+1)*32≤140737488355328):=by show _≤_;have:=hrel.out.1;omega
   have OWN:=zH hrel.out.2.2
   have hsz:w.heap.size≤wr.heap.size:=hrel.out.2.1.size
   clear hx0 hx1 hx2 hcell
   have b0:(0:Int)≤(j:Int):=by omega
   have b1:(j:Int) < (N:Int):=by omega
   have b2:(j:Int)+1 < (N:Int):=by omega
   have b3:(0:Int)≤(j:Int)+1:=by omega
   have b4:IntKind.i64.wrap ((j:Int)+1)=(j:Int)+1:=IntWalk.i64_in _ ⟨by omega,by omega⟩
   have b5:((j:Int)+1).toNat=j+1:=by omega
   go_upto_region 6 with fail
   go_region_held3 (fun w'=>w'.cell? ⟨b,o+j,none⟩=some (.float .f64 x0)∧w'.cell? ⟨b,o+(j+1),none⟩=some (.float .f64 x1)) (go_keep) (fail)
   clear b0 b1 b2 b3 b4 b5
   obtain⟨w4,hw4⟩:∃w4,w4=(wr.alloc (.cells #[.float .f64 x0,.float .f64 x1,.float .f64 0,.float .f64 0] 249)).drew:=⟨_,rfl⟩
   rw[←hw4]
   have H4:Hid (w4.heap[wr.heap.size]?=some (.cells #[.float .f64 x0,.float .f64 x1,.float .f64 0,.float .f64 0] 249 (0,0))∧ZF wr w4):=by
    rw[hw4];exact⟨zN wr _,((Fr.refl _ _).alloc _).drew⟩
   have q2:w4.cell? ⟨wr.heap.size,2,none⟩=some (.float .f64 0):=by rw[zC H4.out.1];rfl
   have q3:w4.cell? ⟨wr.heap.size,3,none⟩=some (.float .f64 0):=by rw[zC H4.out.1];rfl
   have qf:∀k,w4.frozen? ⟨wr.heap.size,k,none⟩=false:=fun k=>zF H4.out.1 k
   have r2:w4.cell? ⟨b,o+(j+2),none⟩=some (.float .f64 x2):=H4.out.2.cell c2 (by simp)
   clear c0 c1 c2 hw4
   go_upto_region 11 with fail
   obtain⟨w5,hw5⟩:∃w5,w5=(w4).setCell ⟨wr.heap.size,2,none⟩ (.float .f64 x2):=⟨_,rfl⟩
   rw[←hw5]
   have H5:Hid (w5.heap[wr.heap.size]?=some (.cells #[.float .f64 x0,.float .f64 x1,.float .f64 x2,.float .f64 0] 249 (0,0))∧Fr (Eq wr.heap.size) w4 w5):=by
    rw[hw5];exact⟨Lib.heap_setCell_same (i:=2) (H4.out.1) _,(Fr.refl _ _).setR _⟩
   have p0:w5.cell? ⟨wr.heap.size,0,none⟩=some (.float .f64 x0):=by rw[zC H5.out.1];rfl
   have p1:w5.cell? ⟨wr.heap.size,1,none⟩=some (.float .f64 x1):=by rw[zC H5.out.1];rfl
   have p2:w5.cell? ⟨wr.heap.size,2,none⟩=some (.float .f64 x2):=by rw[zC H5.out.1];rfl
   have p3:w5.cell? ⟨wr.heap.size,3,none⟩=some (.float .f64 0):=by rw[zC H5.out.1];rfl
   have s4:wr.heap.size≤w4.heap.size:=H4.out.2.size
   have s5:w4.heap.size≤w5.heap.size:=H5.out.2.size
   have O5:Hid ((w5.alloc (.cells #[.float .f64 x0,.float .f64 x1,.float .f64 x2,.float .f64 0] 249)).ownsRow w.heap.size 249 4 u5 i (((List.range i).map (plc 1 xs)).flatMap plCells)):=by
    refine World.ownsRow.alloc (ownsRow_keep OWN.out (fun b _ hb=>?_)) _
    rw[H5.out.2.block b (by omega) (by omega),H4.out.2.block b hb (by simp)]
   have K5:Hid (w.heap.size≤(w5.alloc (.cells #[.float .f64 x0,.float .f64 x1,.float .f64 x2,.float .f64 0] 249)).heap.size):=by
    show _≤(w5.heap.push _).size
    rw[Array.size_push];omega
   have H1C:Hid (∀u∈[Value.float .f64 x0,.float .f64 x1,.float .f64 x2,.float .f64 0],Value.oneCell' u=true):=by
    intro u hu
    simp only[List.mem_cons,List.not_mem_nil,or_false] at hu
    rcases hu with rfl|rfl|rfl|rfl<;>rfl
   have NX:Hid (∀(v':Value) (w7:World),w7.ownsRow w.heap.size 249 4 v' (i+1) (((List.range i).map (plc 1 xs)).flatMap plCells++[.float .f64 x0,.float .f64 x1,.float .f64 x2,.float .f64 0])→(w5.alloc (.cells #[.float .f64 x0,.float .f64 x1,.float .f64 x2,.float .f64 0] 249)).grownBy w7 u5.ownBlock→j+3=(i+1)*3∧ZF w w7∧w7.ownsRow w.heap.size 249 4 v' (i+1) (((List.range (i+1)).map (plc 1 xs)).flatMap plCells)):=fun v' w7 o7 g7=>by
    refine⟨by have:=hrel.out.1;omega,?_,?_⟩
    ·have f5:ZF w w5:=(hrel.out.2.1.trans H4.out.2).transNew H5.out.2 (fun b hb=>.inl (by omega))
     exact (f5.alloc _).grown g7 (fun b hb=>.inl (OWN.out.lt b hb).1)
    ·have e9:((List.range (i+1)).map (plc 1 xs)).flatMap plCells=((List.range i).map (plc 1 xs)).flatMap plCells++[.float .f64 x0,.float .f64 x1,.float .f64 x2,.float .f64 0]:=by
      rw[List.range_succ,List.map_append,List.flatMap_append,List.map_singleton,HX.out]
      rfl
     rw[e9];exact o7
   clear hw5 q2 q3 qf nb
   go_upto_region 5 with (at_builtin;refine wpList_append_own _ rfl _ _ 175 rfl w.heap.size 249 i0 (.agg #[.float .f64 0,.float .f64 0,.float .f64 0,.float .f64 0]) 4 32 Tryz.underlying175 hi0 hz0 hz1 hz2 rfl (by decide) _ i (((List.range i).map (plc 1 xs)).flatMap plCells) rfl O5.out ⟨_,0,none⟩ 1 1 [.float .f64 x0,.float .f64 x1,.float .f64 x2,.float .f64 0] rfl rfl (cell4_new _ _ _ _ _ _) H1C.out K3.out K4.out K5.out ?_;intro v' w7 hown1 hgrow1 _;have HH:=zH (NX.out _ _ hown1 hgrow1);clear hown1 hgrow1;refine Hid.out ?_)
   refine zH ?_
   clear p0 p1 p2 p3 O5 NX hrel OWN
   go_wp2_with fail
   go_roundw
   case rel=>exact⟨i+1,j+3,_,by go_num,rfl,hlt,HH.out⟩
   case measure=>simp[intOf];omega
  ·have hn:i=(places 1 xs).length:=by
    have:=hrel.out.1
    unfold places wd
    rw[List.length_map,List.length_range,←HN.out]
    have e:2+1 % 2+1 / 2 % 2=3:=by decide
    rw[e]
    omega
   have HF:Hid (PlcPost 1 xs w (.returned u5) wr):=by
    obtain⟨va,vc,hv⟩:=slice_shape hrel.out.2.2
    have o:=hrel.out.2.2
    rw[hv] at o ⊢
    refine⟨va,i,vc,rfl,hn,hrel.out.2.1,?_⟩
    have:places 1 xs=(List.range i).map (plc 1 xs):=by
     have h2:=hn
     unfold places at h2 ⊢
     rw[List.length_map,List.length_range] at h2
     rw[←h2]
    rw[this];exact o
   clear hrel hn
   go_wp2_with fail
   go_ret
   exact HF.out
theorem places102_2(P:Nat→Prop)(v:Value)(xs:List Nat)(w:World)(h:NumsAt P w v xs)(hl:xs.length≤100000):Calls Tryz.prog 102 #[v,.int .i64 2] w (PlcPost 2 xs w):=by
 obtain⟨a,cap,rfl,hcp,hc⟩:=h.at2
 obtain⟨N,hN⟩:∃N,N=xs.length:=⟨_,rfl⟩
 obtain⟨i0,hi0,hz0,hz1,hz2⟩:=info_parts info249
 have HC:=zH hc
 have HN:=zH hN
 have HWD:=zH width37_2
 rw[←hN] at hcp ⊢
 have hNl:N≤100000:=by omega
 have hst:=st_fl
 have e1:bits .and .i64 2 1=0:=by decide
 have e2:bits .and .i64 2 2=2:=by decide
 clear hc h hN hl
 go_enter Tryz.func102,Tryz.ntmps102
 go_upto_region 3 with (go_at_call 37;refine (HWD.out _).mono ?_;rintro e w' ⟨rfl,rfl⟩)
 go_wp2_with fail
 go_loopw [5,7] (fun vv iv wr=>∃(i j:Nat) (v:Value),iv=.int .i64 (j:Int)∧vv=v∧j≤N∧Hid (j=i*3∧ZF w wr∧wr.ownsRow w.heap.size 249 4 v i (((List.range i).map (plc 2 xs)).flatMap plCells))) (fun _ iv _=>N - (intOf iv).toNat)
 case atStart=>exact⟨0,0,_,rfl,rfl,Nat.zero_le _,by omega,Fr.refl _ _,World.ownsRow_nil _ _ _ _⟩
 case round =>
  obtain⟨i,j,v,rfl,rfl,hj,hrel⟩:=hrel
  by_cases hlt:j+3≤N
  ·obtain⟨b,o,hab,_,hcell⟩:=HC.out (by rw[←HN.out];omega)
   subst hab
   obtain⟨x0,hx0⟩:∃x,x=xs.getD (j+0) 0:=⟨_,rfl⟩
   have c0:wr.cell? ⟨b,o+j,none⟩=some (.float .f64 x0):=by rw[hx0];exact hrel.out.2.1.cell (hcell (j+0) (by rw[←HN.out];omega)) (by simp)
   obtain⟨x1,hx1⟩:∃x,x=xs.getD (j+1) 0:=⟨_,rfl⟩
   have c1:wr.cell? ⟨b,o+(j+1),none⟩=some (.float .f64 x1):=by rw[hx1];exact hrel.out.2.1.cell (hcell (j+1) (by rw[←HN.out];omega)) (by simp)
   obtain⟨x2,hx2⟩:∃x,x=xs.getD (j+2) 0:=⟨_,rfl⟩
   have c2:wr.cell? ⟨b,o+(j+2),none⟩=some (.float .f64 x2):=by rw[hx2];exact hrel.out.2.1.cell (hcell (j+2) (by rw[←HN.out];omega)) (by simp)
   have HX:Hid (plc 2 xs i=(x0,x1,0,x2)):=by
    have hji:=hrel.out.1
    show _=_
    unfold plc wd
    rw[hx0,hx1,hx2,hji]
    rfl
   have nb:wr.heap.size≠b:=World.new_ne wr _ c0
   have K3:Hid (i+1≤maxLen):=by show _≤_;have:=hrel.out.1;unfold maxLen;omega
   have K4:Hid ((i+1)*32≤140737488355328):=by show _≤_;have:=hrel.out.1;omega
   have OWN:=zH hrel.out.2.2
   have hsz:w.heap.size≤wr.heap.size:=hrel.out.2.1.size
   clear hx0 hx1 hx2 hcell
   have b0:(0:Int)≤(j:Int):=by omega
   have b1:(j:Int) < (N:Int):=by omega
   have b2:(j:Int)+1 < (N:Int):=by omega
   have b3:(0:Int)≤(j:Int)+1:=by omega
   have b4:IntKind.i64.wrap ((j:Int)+1)=(j:Int)+1:=IntWalk.i64_in _ ⟨by omega,by omega⟩
   have b5:((j:Int)+1).toNat=j+1:=by omega
   go_upto_region 6 with fail
   go_region_held3 (fun w'=>w'.cell? ⟨b,o+j,none⟩=some (.float .f64 x0)∧w'.cell? ⟨b,o+(j+1),none⟩=some (.float .f64 x1)) (go_keep) (fail)
   clear b0 b1 b2 b3 b4 b5
   obtain⟨w4,hw4⟩:∃w4,w4=(wr.alloc (.cells #[.float .f64 x0,.float .f64 x1,.float .f64 0,.float .f64 0] 249)).drew:=⟨_,rfl⟩
   rw[←hw4]
   have H4:Hid (w4.heap[wr.heap.size]?=some (.cells #[.float .f64 x0,.float .f64 x1,.float .f64 0,.float .f64 0] 249 (0,0))∧ZF wr w4):=by
    rw[hw4];exact⟨zN wr _,((Fr.refl _ _).alloc _).drew⟩
   have q2:w4.cell? ⟨wr.heap.size,2,none⟩=some (.float .f64 0):=by rw[zC H4.out.1];rfl
   have q3:w4.cell? ⟨wr.heap.size,3,none⟩=some (.float .f64 0):=by rw[zC H4.out.1];rfl
   have qf:∀k,w4.frozen? ⟨wr.heap.size,k,none⟩=false:=fun k=>zF H4.out.1 k
   have r2:w4.cell? ⟨b,o+(j+2),none⟩=some (.float .f64 x2):=H4.out.2.cell c2 (by simp)
   clear c0 c1 c2 hw4
   go_upto_region 11 with fail
   obtain⟨w5,hw5⟩:∃w5,w5=(w4).setCell ⟨wr.heap.size,3,none⟩ (.float .f64 x2):=⟨_,rfl⟩
   rw[←hw5]
   have H5:Hid (w5.heap[wr.heap.size]?=some (.cells #[.float .f64 x0,.float .f64 x1,.float .f64 0,.float .f64 x2] 249 (0,0))∧Fr (Eq wr.heap.size) w4 w5):=by
    rw[hw5];exact⟨Lib.heap_setCell_same (i:=3) (H4.out.1) _,(Fr.refl _ _).setR _⟩
   have p0:w5.cell? ⟨wr.heap.size,0,none⟩=some (.float .f64 x0):=by rw[zC H5.out.1];rfl
   have p1:w5.cell? ⟨wr.heap.size,1,none⟩=some (.float .f64 x1):=by rw[zC H5.out.1];rfl
   have p2:w5.cell? ⟨wr.heap.size,2,none⟩=some (.float .f64 0):=by rw[zC H5.out.1];rfl
   have p3:w5.cell? ⟨wr.heap.size,3,none⟩=some (.float .f64 x2):=by rw[zC H5.out.1];rfl
   have s4:wr.heap.size≤w4.heap.size:=H4.out.2.size
   have s5:w4.heap.size≤w5.heap.size:=H5.out.2.size
   have O5:Hid ((w5.alloc (.cells #[.float .f64 x0,.float .f64 x1,.float .f64 0,.float .f64 x2] 249)).ownsRow w.heap.size 249 4 u5 i (((List.range i).map (plc 2 xs)).flatMap plCells)):=by
    refine World.ownsRow.alloc (ownsRow_keep OWN.out (fun b _ hb=>?_)) _
    rw[H5.out.2.block b (by omega) (by omega),H4.out.2.block b hb (by simp)]
   have K5:Hid (w.heap.size≤(w5.alloc (.cells #[.float .f64 x0,.float .f64 x1,.float .f64 0,.float .f64 x2] 249)).heap.size):=by
    show _≤(w5.heap.push _).size
    rw[Array.size_push];omega
   have H1C:Hid (∀u∈[Value.float .f64 x0,.float .f64 x1,.float .f64 0,.float .f64 x2],Value.oneCell' u=true):=by
    intro u hu
    simp only[List.mem_cons,List.not_mem_nil,or_false] at hu
    rcases hu with rfl|rfl|rfl|rfl<;>rfl
   have NX:Hid (∀(v':Value) (w7:World),w7.ownsRow w.heap.size 249 4 v' (i+1) (((List.range i).map (plc 2 xs)).flatMap plCells++[.float .f64 x0,.float .f64 x1,.float .f64 0,.float .f64 x2])→(w5.alloc (.cells #[.float .f64 x0,.float .f64 x1,.float .f64 0,.float .f64 x2] 249)).grownBy w7 u5.ownBlock→j+3=(i+1)*3∧ZF w w7∧w7.ownsRow w.heap.size 249 4 v' (i+1) (((List.range (i+1)).map (plc 2 xs)).flatMap plCells)):=fun v' w7 o7 g7=>by
    refine⟨by have:=hrel.out.1;omega,?_,?_⟩
    ·have f5:ZF w w5:=(hrel.out.2.1.trans H4.out.2).transNew H5.out.2 (fun b hb=>.inl (by omega))
     exact (f5.alloc _).grown g7 (fun b hb=>.inl (OWN.out.lt b hb).1)
    ·have e9:((List.range (i+1)).map (plc 2 xs)).flatMap plCells=((List.range i).map (plc 2 xs)).flatMap plCells++[.float .f64 x0,.float .f64 x1,.float .f64 0,.float .f64 x2]:=by
      rw[List.range_succ,List.map_append,List.flatMap_append,List.map_singleton,HX.out]
      rfl
     rw[e9];exact o7
   clear hw5 q2 q3 qf nb
   go_upto_region 5 with (at_builtin;refine wpList_append_own _ rfl _ _ 175 rfl w.heap.size 249 i0 (.agg #[.float .f64 0,.float .f64 0,.float .f64 0,.float .f64 0]) 4 32 Tryz.underlying175 hi0 hz0 hz1 hz2 rfl (by decide) _ i (((List.range i).map (plc 2 xs)).flatMap plCells) rfl O5.out ⟨_,0,none⟩ 1 1 [.float .f64 x0,.float .f64 x1,.float .f64 0,.float .f64 x2] rfl rfl (cell4_new _ _ _ _ _ _) H1C.out K3.out K4.out K5.out ?_;intro v' w7 hown1 hgrow1 _;have HH:=zH (NX.out _ _ hown1 hgrow1);clear hown1 hgrow1;refine Hid.out ?_)
   refine zH ?_
   clear p0 p1 p2 p3 O5 NX hrel OWN
   go_wp2_with fail
   go_roundw
   case rel=>exact⟨i+1,j+3,_,by go_num,rfl,hlt,HH.out⟩
   case measure=>simp[intOf];omega
  ·have hn:i=(places 2 xs).length:=by
    have:=hrel.out.1
    unfold places wd
    rw[List.length_map,List.length_range,←HN.out]
    have e:2+2 % 2+2 / 2 % 2=3:=by decide
    rw[e]
    omega
   have HF:Hid (PlcPost 2 xs w (.returned u5) wr):=by
    obtain⟨va,vc,hv⟩:=slice_shape hrel.out.2.2
    have o:=hrel.out.2.2
    rw[hv] at o ⊢
    refine⟨va,i,vc,rfl,hn,hrel.out.2.1,?_⟩
    have:places 2 xs=(List.range i).map (plc 2 xs):=by
     have h2:=hn
     unfold places at h2 ⊢
     rw[List.length_map,List.length_range] at h2
     rw[←h2]
    rw[this];exact o
   clear hrel hn
   go_wp2_with fail
   go_ret
   exact HF.out
theorem places102_3(P:Nat→Prop)(v:Value)(xs:List Nat)(w:World)(h:NumsAt P w v xs)(hl:xs.length≤100000):Calls Tryz.prog 102 #[v,.int .i64 3] w (PlcPost 3 xs w):=by
 obtain⟨a,cap,rfl,hcp,hc⟩:=h.at2
 obtain⟨N,hN⟩:∃N,N=xs.length:=⟨_,rfl⟩
 obtain⟨i0,hi0,hz0,hz1,hz2⟩:=info_parts info249
 have HC:=zH hc
 have HN:=zH hN
 have HWD:=zH width37_3
 rw[←hN] at hcp ⊢
 have hNl:N≤100000:=by omega
 have hst:=st_fl
 have e1:bits .and .i64 3 1=1:=by decide
 have e2:bits .and .i64 3 2=2:=by decide
 clear hc h hN hl
 go_enter Tryz.func102,Tryz.ntmps102
 go_upto_region 3 with (go_at_call 37;refine (HWD.out _).mono ?_;rintro e w' ⟨rfl,rfl⟩)
 go_wp2_with fail
 go_loopw [5,7] (fun vv iv wr=>∃(i j:Nat) (v:Value),iv=.int .i64 (j:Int)∧vv=v∧j≤N∧Hid (j=i*4∧ZF w wr∧wr.ownsRow w.heap.size 249 4 v i (((List.range i).map (plc 3 xs)).flatMap plCells))) (fun _ iv _=>N - (intOf iv).toNat)
 case atStart=>exact⟨0,0,_,rfl,rfl,Nat.zero_le _,by omega,Fr.refl _ _,World.ownsRow_nil _ _ _ _⟩
 case round =>
  obtain⟨i,j,v,rfl,rfl,hj,hrel⟩:=hrel
  by_cases hlt:j+4≤N
  ·obtain⟨b,o,hab,_,hcell⟩:=HC.out (by rw[←HN.out];omega)
   subst hab
   obtain⟨x0,hx0⟩:∃x,x=xs.getD (j+0) 0:=⟨_,rfl⟩
   have c0:wr.cell? ⟨b,o+j,none⟩=some (.float .f64 x0):=by rw[hx0];exact hrel.out.2.1.cell (hcell (j+0) (by rw[←HN.out];omega)) (by simp)
   obtain⟨x1,hx1⟩:∃x,x=xs.getD (j+1) 0:=⟨_,rfl⟩
   have c1:wr.cell? ⟨b,o+(j+1),none⟩=some (.float .f64 x1):=by rw[hx1];exact hrel.out.2.1.cell (hcell (j+1) (by rw[←HN.out];omega)) (by simp)
   obtain⟨x2,hx2⟩:∃x,x=xs.getD (j+2) 0:=⟨_,rfl⟩
   have c2:wr.cell? ⟨b,o+(j+2),none⟩=some (.float .f64 x2):=by rw[hx2];exact hrel.out.2.1.cell (hcell (j+2) (by rw[←HN.out];omega)) (by simp)
   obtain⟨x3,hx3⟩:∃x,x=xs.getD (j+3) 0:=⟨_,rfl⟩
   have c3:wr.cell? ⟨b,o+(j+3),none⟩=some (.float .f64 x3):=by rw[hx3];exact hrel.out.2.1.cell (hcell (j+3) (by rw[←HN.out];omega)) (by simp)
   have HX:Hid (plc 3 xs i=(x0,x1,x2,x3)):=by
    have hji:=hrel.out.1
    show _=_
    unfold plc wd
    rw[hx0,hx1,hx2,hx3,hji]
    rfl
   have nb:wr.heap.size≠b:=World.new_ne wr _ c0
   have K3:Hid (i+1≤maxLen):=by show _≤_;have:=hrel.out.1;unfold maxLen;omega
   have K4:Hid ((i+1)*32≤140737488355328):=by show _≤_;have:=hrel.out.1;omega
   have OWN:=zH hrel.out.2.2
   have hsz:w.heap.size≤wr.heap.size:=hrel.out.2.1.size
   clear hx0 hx1 hx2 hx3 hcell
   have b0:(0:Int)≤(j:Int):=by omega
   have b1:(j:Int) < (N:Int):=by omega
   have b2:(j:Int)+1 < (N:Int):=by omega
   have b3:(0:Int)≤(j:Int)+1:=by omega
   have b4:IntKind.i64.wrap ((j:Int)+1)=(j:Int)+1:=IntWalk.i64_in _ ⟨by omega,by omega⟩
   have b5:((j:Int)+1).toNat=j+1:=by omega
   go_upto_region 6 with fail
   go_region_held3 (fun w'=>w'.cell? ⟨b,o+j,none⟩=some (.float .f64 x0)∧w'.cell? ⟨b,o+(j+1),none⟩=some (.float .f64 x1)) (go_keep) (fail)
   clear b0 b1 b2 b3 b4 b5
   obtain⟨w4,hw4⟩:∃w4,w4=(wr.alloc (.cells #[.float .f64 x0,.float .f64 x1,.float .f64 0,.float .f64 0] 249)).drew:=⟨_,rfl⟩
   rw[←hw4]
   have H4:Hid (w4.heap[wr.heap.size]?=some (.cells #[.float .f64 x0,.float .f64 x1,.float .f64 0,.float .f64 0] 249 (0,0))∧ZF wr w4):=by
    rw[hw4];exact⟨zN wr _,((Fr.refl _ _).alloc _).drew⟩
   have q2:w4.cell? ⟨wr.heap.size,2,none⟩=some (.float .f64 0):=by rw[zC H4.out.1];rfl
   have q3:w4.cell? ⟨wr.heap.size,3,none⟩=some (.float .f64 0):=by rw[zC H4.out.1];rfl
   have qf:∀k,w4.frozen? ⟨wr.heap.size,k,none⟩=false:=fun k=>zF H4.out.1 k
   have r2:w4.cell? ⟨b,o+(j+2),none⟩=some (.float .f64 x2):=H4.out.2.cell c2 (by simp)
   have r3:w4.cell? ⟨b,o+(j+3),none⟩=some (.float .f64 x3):=H4.out.2.cell c3 (by simp)
   clear c0 c1 c2 c3 hw4
   go_upto_region 11 with fail
   obtain⟨w5,hw5⟩:∃w5,w5=((w4).setCell ⟨wr.heap.size,2,none⟩ (.float .f64 x2)).setCell ⟨wr.heap.size,3,none⟩ (.float .f64 x3):=⟨_,rfl⟩
   rw[←hw5]
   have H5:Hid (w5.heap[wr.heap.size]?=some (.cells #[.float .f64 x0,.float .f64 x1,.float .f64 x2,.float .f64 x3] 249 (0,0))∧Fr (Eq wr.heap.size) w4 w5):=by
    rw[hw5];exact⟨Lib.heap_setCell_same (i:=3) (Lib.heap_setCell_same (i:=2) (H4.out.1) _) _,((Fr.refl _ _).setR _).setR _⟩
   have p0:w5.cell? ⟨wr.heap.size,0,none⟩=some (.float .f64 x0):=by rw[zC H5.out.1];rfl
   have p1:w5.cell? ⟨wr.heap.size,1,none⟩=some (.float .f64 x1):=by rw[zC H5.out.1];rfl
   have p2:w5.cell? ⟨wr.heap.size,2,none⟩=some (.float .f64 x2):=by rw[zC H5.out.1];rfl
   have p3:w5.cell? ⟨wr.heap.size,3,none⟩=some (.float .f64 x3):=by rw[zC H5.out.1];rfl
   have s4:wr.heap.size≤w4.heap.size:=H4.out.2.size
   have s5:w4.heap.size≤w5.heap.size:=H5.out.2.size
   have O5:Hid ((w5.alloc (.cells #[.float .f64 x0,.float .f64 x1,.float .f64 x2,.float .f64 x3] 249)).ownsRow w.heap.size 249 4 u5 i (((List.range i).map (plc 3 xs)).flatMap plCells)):=by
    refine World.ownsRow.alloc (ownsRow_keep OWN.out (fun b _ hb=>?_)) _
    rw[H5.out.2.block b (by omega) (by omega),H4.out.2.block b hb (by simp)]
   have K5:Hid (w.heap.size≤(w5.alloc (.cells #[.float .f64 x0,.float .f64 x1,.float .f64 x2,.float .f64 x3] 249)).heap.size):=by
    show _≤(w5.heap.push _).size
    rw[Array.size_push];omega
   have H1C:Hid (∀u∈[Value.float .f64 x0,.float .f64 x1,.float .f64 x2,.float .f64 x3],Value.oneCell' u=true):=by
    intro u hu
    simp only[List.mem_cons,List.not_mem_nil,or_false] at hu
    rcases hu with rfl|rfl|rfl|rfl<;>rfl
   have NX:Hid (∀(v':Value) (w7:World),w7.ownsRow w.heap.size 249 4 v' (i+1) (((List.range i).map (plc 3 xs)).flatMap plCells++[.float .f64 x0,.float .f64 x1,.float .f64 x2,.float .f64 x3])→(w5.alloc (.cells #[.float .f64 x0,.float .f64 x1,.float .f64 x2,.float .f64 x3] 249)).grownBy w7 u5.ownBlock→j+4=(i+1)*4∧ZF w w7∧w7.ownsRow w.heap.size 249 4 v' (i+1) (((List.range (i+1)).map (plc 3 xs)).flatMap plCells)):=fun v' w7 o7 g7=>by
    refine⟨by have:=hrel.out.1;omega,?_,?_⟩
    ·have f5:ZF w w5:=(hrel.out.2.1.trans H4.out.2).transNew H5.out.2 (fun b hb=>.inl (by omega))
     exact (f5.alloc _).grown g7 (fun b hb=>.inl (OWN.out.lt b hb).1)
    ·have e9:((List.range (i+1)).map (plc 3 xs)).flatMap plCells=((List.range i).map (plc 3 xs)).flatMap plCells++[.float .f64 x0,.float .f64 x1,.float .f64 x2,.float .f64 x3]:=by
      rw[List.range_succ,List.map_append,List.flatMap_append,List.map_singleton,HX.out]
      rfl
     rw[e9];exact o7
   clear hw5 q2 q3 qf nb
   go_upto_region 5 with (at_builtin;refine wpList_append_own _ rfl _ _ 175 rfl w.heap.size 249 i0 (.agg #[.float .f64 0,.float .f64 0,.float .f64 0,.float .f64 0]) 4 32 Tryz.underlying175 hi0 hz0 hz1 hz2 rfl (by decide) _ i (((List.range i).map (plc 3 xs)).flatMap plCells) rfl O5.out ⟨_,0,none⟩ 1 1 [.float .f64 x0,.float .f64 x1,.float .f64 x2,.float .f64 x3] rfl rfl (cell4_new _ _ _ _ _ _) H1C.out K3.out K4.out K5.out ?_;intro v' w7 hown1 hgrow1 _;have HH:=zH (NX.out _ _ hown1 hgrow1);clear hown1 hgrow1;refine Hid.out ?_)
   refine zH ?_
   clear p0 p1 p2 p3 O5 NX hrel OWN
   go_wp2_with fail
   go_roundw
   case rel=>exact⟨i+1,j+4,_,by go_num,rfl,hlt,HH.out⟩
   case measure=>simp[intOf];omega
  ·have hn:i=(places 3 xs).length:=by
    have:=hrel.out.1
    unfold places wd
    rw[List.length_map,List.length_range,←HN.out]
    have e:2+3 % 2+3 / 2 % 2=4:=by decide
    rw[e]
    omega
   have HF:Hid (PlcPost 3 xs w (.returned u5) wr):=by
    obtain⟨va,vc,hv⟩:=slice_shape hrel.out.2.2
    have o:=hrel.out.2.2
    rw[hv] at o ⊢
    refine⟨va,i,vc,rfl,hn,hrel.out.2.1,?_⟩
    have:places 3 xs=(List.range i).map (plc 3 xs):=by
     have h2:=hn
     unfold places at h2 ⊢
     rw[List.length_map,List.length_range] at h2
     rw[←h2]
    rw[this];exact o
   clear hrel hn
   go_wp2_with fail
   go_ret
   exact HF.out
def NumPostN (d:Nat) (ps:List Plc) (w:World) (e:Ending) (w':World):Prop :=
 ∃(a:Option Addr) (n c:Nat),e=.returned (.slice a n c)∧Hid (n=(nums d ps).length∧ZF w w'∧w'.ownsRow w.heap.size 40 1 (.slice a n c) n ((nums d ps).map flv))
theorem two_new(w:World)(x y:Value)(t:TypeId):∀j u,[x,y][j]?=some u→(w.alloc (.cells #[x,y] t)).cell? ((⟨w.heap.size,0,none⟩:Addr).add j)=some u:=by
 intro j u hj
 have h:=zN w (.cells #[x,y] t)
 have e:(⟨w.heap.size,0,none⟩:Addr).add j=⟨w.heap.size,0+j,none⟩:=by cases j<;>simp[Addr.add]
 rw[e,zC h,Nat.zero_add]
 simpa using hj
theorem PlsAt.at{P:Nat→Prop}{w:World}{v:Value}{ps:List Plc}(h:CellsAt P w v ps.length 4 (ps.flatMap plCells)):∃a cap,v=.slice a ps.length cap∧ps.length≤cap∧(0 < ps.length→∃b o,a=some ⟨b,o,none⟩∧P b∧∀k (hk:k < ps.length),w.cell? ⟨b,o+k*4,none⟩=some (flv ps[k].1)∧w.cell? ⟨b,o+k*4+1,none⟩=some (flv ps[k].2.1)∧w.cell? ⟨b,o+k*4+2,none⟩=some (flv ps[k].2.2.1)∧w.cell? ⟨b,o+k*4+3,none⟩=some (flv ps[k].2.2.2)):=by
 obtain⟨_,a,cap,rfl,h2,_,h4⟩:=h
 refine⟨a,cap,rfl,h2,fun hn=>?_⟩
 obtain⟨b,o,rfl,hp,hc⟩:=h4 hn
 refine⟨b,o,rfl,hp,fun k hk=>?_⟩
 have hm:∀c∈ps.map plCells,c.length=4:=fun c hc=>by
  obtain⟨p,_,rfl⟩:=List.mem_map.1 hc
  rfl
 have hk2:(ps.map plCells)[k]?=some (plCells ps[k]):=by simp[hk]
 have key:∀j,j < 4→(ps.flatMap plCells)[k*4+j]?=(plCells ps[k])[j]?:=fun j hj=>by
  rw[List.flatMap_def]
  exact flatten_at hm k _ hk2 j hj
 refine⟨?_,?_,?_,?_⟩
 ·exact hc (k*4) _ (by have:=key 0 (by decide);rw[Nat.add_zero] at this;rw[this];rfl)
 ·rw[Nat.add_assoc];exact hc (k*4+1) _ (by rw[key 1 (by decide)];rfl)
 ·rw[Nat.add_assoc];exact hc (k*4+2) _ (by rw[key 2 (by decide)];rfl)
 ·rw[Nat.add_assoc];exact hc (k*4+3) _ (by rw[key 3 (by decide)];rfl)
open Go.RowKit
structure NmAt (w:World) (pb:Nat) (p:Array Value) (v:Value) (j:Nat) (cs:List Value) (wx:World):Prop where
 fr:ZF w wx
 blk:wx.heap[pb]?=some (.cells p 249 (0,0))
 own:wx.ownsRow w.heap.size 40 1 v j cs
 ne:v.ownBlock≠some pb
theorem NmAt.app{w:World}{pb:Nat}{p:Array Value}{v:Value}{j:Nat}{cs:List Value}{wx:World}(h:NmAt w pb p v j cs wx){o:Obj}{w7:World}{v':Value}{m:Nat}{news:List Value}(o7:w7.ownsRow w.heap.size 40 1 v' (j+m) (cs++news))(g7:(wx.alloc o).grownBy w7 v.ownBlock)(hat:v'.ownBlock=v.ownBlock∨v'.ownBlock=some (wx.alloc o).heap.size):NmAt w pb p v' (j+m) (cs++news) w7:=by
 have ha:(wx.alloc o).heap.size=wx.heap.size+1:=by show (wx.heap.push _).size=_;rw[Array.size_push]
 have hp:=(zG h.blk).1
 refine⟨(h.fr.alloc o).grown g7 (fun b hb=>.inl (h.own.lt b hb).1),(g7.block pb (by omega) (fun e=>h.ne e.symm)).trans ((Below.heap_alloc wx o pb hp).trans h.blk),o7,?_⟩
 rcases hat with e|e
 ·rw[e];exact h.ne
 ·rw[e,ha];intro e2;injection e2 with e2;omega
theorem pl_cells{w1:World}{b:Nat}{v0 v1 v2 v3:Value}(h:w1.heap[b]?=some (.cells #[v0,v1,v2,v3] 249 (0,0))):
  w1.cell? ⟨b,0,none⟩=some v0∧w1.cell? ⟨b,1,none⟩=some v1∧w1.cell? ⟨b,2,none⟩=some v2∧w1.cell? ⟨b,3,none⟩=some v3:=by
 refine⟨?_,?_,?_,?_⟩<;>(rw[zC h];rfl)
theorem all_one(xs:List Nat):∀u∈xs.map flv,u.oneCell'=true:=by
 intro u hu
 obtain⟨x,_,rfl⟩:=List.mem_map.1 hu
 rfl
theorem nums101_0(P:Nat→Prop)(v:Value)(ps:List Plc)(w:World)(h:CellsAt P w v ps.length 4 (ps.flatMap plCells))(hl:ps.length≤100000):Calls Tryz.prog 101 #[v,.int .i64 0] w (NumPostN 0 ps w):=by
 obtain⟨a,cap,rfl,hcp,hc⟩:=PlsAt.at h
 obtain⟨N,hN⟩:∃N,N=ps.length:=⟨_,rfl⟩
 obtain⟨i0,hi0,hz0,hz1,hz2⟩:=info_parts info40
 have HC:=zH hc
 have HN:=zH hN
 rw[←hN] at hcp ⊢
 have hNl:N≤100000:=by omega
 have hst:=st_fl
 have e1:bits .and .i64 0 1=0:=by decide
 have e2:bits .and .i64 0 2=0:=by decide
 clear hc h hN hl
 go_enter Tryz.func101,Tryz.ntmps101
 go_wp2_with fail
 go_loopw [5,10] (fun vv iv wr=>∃(i j:Nat) (v:Value),iv=.int .i64 (i:Int)∧vv=v∧i≤N∧Hid (j=i*2∧ZF w wr∧wr.ownsRow w.heap.size 40 1 v j ((nums 0 (ps.take i)).map flv))) (fun _ iv _=>N - (intOf iv).toNat)
 case atStart=>exact⟨0,0,_,rfl,rfl,Nat.zero_le _,by omega,Fr.refl _ _,World.ownsRow_nil _ _ _ _⟩
 case round =>
  obtain⟨i,j,v,rfl,rfl,hi,hrel⟩:=hrel
  by_cases hlt:i < N
  ·obtain⟨b,o,hab,_,hcell⟩:=HC.out (by rw[←HN.out];omega)
   subst hab
   have hip:i < ps.length:=by rw[←HN.out];exact hlt
   obtain⟨k0,k1,k2,k3⟩:=hcell i hip
   obtain⟨x0,hx0⟩:∃x,x=ps[i].1:=⟨_,rfl⟩
   obtain⟨x1,hx1⟩:∃x,x=ps[i].2.1:=⟨_,rfl⟩
   obtain⟨x2,hx2⟩:∃x,x=ps[i].2.2.1:=⟨_,rfl⟩
   obtain⟨x3,hx3⟩:∃x,x=ps[i].2.2.2:=⟨_,rfl⟩
   rw[←hx0] at k0
   rw[←hx1] at k1
   rw[←hx2] at k2
   rw[←hx3] at k3
   have c0:wr.cell? ⟨b,o+i*4,none⟩=some (.float .f64 x0):=hrel.out.2.1.cell k0 (by simp)
   have c1:wr.cell? ⟨b,o+i*4+1,none⟩=some (.float .f64 x1):=hrel.out.2.1.cell k1 (by simp)
   have c2:wr.cell? ⟨b,o+i*4+2,none⟩=some (.float .f64 x2):=hrel.out.2.1.cell k2 (by simp)
   have c3:wr.cell? ⟨b,o+i*4+3,none⟩=some (.float .f64 x3):=hrel.out.2.1.cell k3 (by simp)
   have HX:Hid ((nums 0 (ps.take (i+1))).map flv=(nums 0 (ps.take i)).map flv++([.float .f64 x0,.float .f64 x1]++[]++[])):=by
    show _=_
    rw[List.take_succ_eq_append_getElem hip]
    unfold nums
    rw[List.flatMap_append,List.map_append,hx0,hx1]
    rfl
   have OWN:=zH hrel.out.2.2
   have hji:j≤400000:=by have:=hrel.out.1;omega
   have hsz:w.heap.size≤wr.heap.size:=hrel.out.2.1.size
   clear k0 k1 k2 k3 hx0 hx1 hx2 hx3 hcell
   go_upto_region 5 with fail
   obtain⟨w4,hw4⟩:∃w4,w4=wr.alloc (.cells #[.float .f64 x0,.float .f64 x1,.float .f64 x2,.float .f64 x3] 249):=⟨_,rfl⟩
   rw[←hw4]
   have HA:Hid (NmAt w wr.heap.size #[.float .f64 x0,.float .f64 x1,.float .f64 x2,.float .f64 x3] u5 j ((nums 0 (ps.take i)).map flv) w4):=by
    show NmAt _ _ _ _ _ _ _
    rw[hw4]
    exact⟨hrel.out.2.1.alloc _,zN wr _,OWN.out.alloc _,fun e=>by have:=(OWN.out.lt _ e).2;omega⟩
   clear hw4 c0 c1 c2 c3
   have A4:=HA
   have K3:Hid (j+2≤maxLen):=by show _≤_;unfold maxLen;omega
   have K4:Hid ((j+2)*8≤140737488355328):=by show _≤_;omega
   have K5:Hid (∀o,w.heap.size≤(w4.alloc o).heap.size):=fun o=>by
    show _≤(w4.heap.push _).size
    rw[Array.size_push]
    have:=A4.out.fr.size
    omega
   have K7:Hid (∀o,(w4.alloc o).ownsRow w.heap.size 40 1 u5 (j) ((nums 0 (ps.take i)).map flv)):=fun o=>A4.out.own.alloc o
   obtain⟨p0,p1,p2,p3⟩:=pl_cells A4.out.blk
   go_upto_if 23 with (at_builtin;refine wpList_append_own_at _ rfl _ _ 24 rfl w.heap.size 40 i0 (.float .f64 0) 1 8 Tryz.underlying24 hi0 hz0 hz1 hz2 rfl (by decide) _ (j) ((nums 0 (ps.take i)).map flv) rfl (K7.out _) ⟨_,0,none⟩ 2 2 ([x0,x1].map flv) rfl rfl (two_new _ _ _ _) (all_one [x0,x1]) K3.out K4.out (K5.out _) ?_;intro v4 w5 hown1 hgrow1 _ hat;have B4:=zH (A4.out.app hown1 hgrow1 hat);clear hown1 hgrow1 hat)
   clear p0 p1 p2 p3 K3 K4 K5 K7 A4
   have HR:Hid (j+2=(i+1)*2∧ZF w w5∧w5.ownsRow w.heap.size 40 1 v4 (j+2) ((nums 0 (ps.take (i+1))).map flv)):=by
    refine⟨by have:=hrel.out.1;omega,B4.out.fr,?_⟩
    rw[HX.out]
    have:=B4.out.own
    simp only[List.map_cons,List.map_nil,List.append_nil] at this ⊢
    exact this
   clear B4 hrel OWN
   go_wp2_with fail
   go_roundw
   case rel=>exact⟨i+1,j+2,_,by go_num,rfl,by omega,HR.out⟩
   case measure=>simp[intOf];omega
  ·have HF:Hid (NumPostN 0 ps w (.returned u5) wr):=by
    obtain⟨va,vc,hv⟩:=slice_shape hrel.out.2.2
    have o:=hrel.out.2.2
    have hiN:i=N:=by omega
    rw[hv] at o ⊢
    have ht:ps.take i=ps:=List.take_of_length_le (by rw[←HN.out];omega)
    rw[ht] at o
    exact⟨va,j,vc,rfl,by rw[nums_len,←HN.out,hrel.out.1,hiN];rfl,hrel.out.2.1,o⟩
   clear hrel
   go_wp2_with fail
   go_ret
   exact HF.out
theorem nums101_1(P:Nat→Prop)(v:Value)(ps:List Plc)(w:World)(h:CellsAt P w v ps.length 4 (ps.flatMap plCells))(hl:ps.length≤100000):Calls Tryz.prog 101 #[v,.int .i64 1] w (NumPostN 1 ps w):=by
 obtain⟨a,cap,rfl,hcp,hc⟩:=PlsAt.at h
 obtain⟨N,hN⟩:∃N,N=ps.length:=⟨_,rfl⟩
 obtain⟨i0,hi0,hz0,hz1,hz2⟩:=info_parts info40
 have HC:=zH hc
 have HN:=zH hN
 rw[←hN] at hcp ⊢
 have hNl:N≤100000:=by omega
 have hst:=st_fl
 have e1:bits .and .i64 1 1=1:=by decide
 have e2:bits .and .i64 1 2=0:=by decide
 clear hc h hN hl
 go_enter Tryz.func101,Tryz.ntmps101
 go_wp2_with fail
 go_loopw [5,10] (fun vv iv wr=>∃(i j:Nat) (v:Value),iv=.int .i64 (i:Int)∧vv=v∧i≤N∧Hid (j=i*3∧ZF w wr∧wr.ownsRow w.heap.size 40 1 v j ((nums 1 (ps.take i)).map flv))) (fun _ iv _=>N - (intOf iv).toNat)
 case atStart=>exact⟨0,0,_,rfl,rfl,Nat.zero_le _,by omega,Fr.refl _ _,World.ownsRow_nil _ _ _ _⟩
 case round =>
  obtain⟨i,j,v,rfl,rfl,hi,hrel⟩:=hrel
  by_cases hlt:i < N
  ·obtain⟨b,o,hab,_,hcell⟩:=HC.out (by rw[←HN.out];omega)
   subst hab
   have hip:i < ps.length:=by rw[←HN.out];exact hlt
   obtain⟨k0,k1,k2,k3⟩:=hcell i hip
   obtain⟨x0,hx0⟩:∃x,x=ps[i].1:=⟨_,rfl⟩
   obtain⟨x1,hx1⟩:∃x,x=ps[i].2.1:=⟨_,rfl⟩
   obtain⟨x2,hx2⟩:∃x,x=ps[i].2.2.1:=⟨_,rfl⟩
   obtain⟨x3,hx3⟩:∃x,x=ps[i].2.2.2:=⟨_,rfl⟩
   rw[←hx0] at k0
   rw[←hx1] at k1
   rw[←hx2] at k2
   rw[←hx3] at k3
   have c0:wr.cell? ⟨b,o+i*4,none⟩=some (.float .f64 x0):=hrel.out.2.1.cell k0 (by simp)
   have c1:wr.cell? ⟨b,o+i*4+1,none⟩=some (.float .f64 x1):=hrel.out.2.1.cell k1 (by simp)
   have c2:wr.cell? ⟨b,o+i*4+2,none⟩=some (.float .f64 x2):=hrel.out.2.1.cell k2 (by simp)
   have c3:wr.cell? ⟨b,o+i*4+3,none⟩=some (.float .f64 x3):=hrel.out.2.1.cell k3 (by simp)
   have HX:Hid ((nums 1 (ps.take (i+1))).map flv=(nums 1 (ps.take i)).map flv++([.float .f64 x0,.float .f64 x1]++[.float .f64 x2]++[])):=by
    show _=_
    rw[List.take_succ_eq_append_getElem hip]
    unfold nums
    rw[List.flatMap_append,List.map_append,hx0,hx1,hx2]
    rfl
   have OWN:=zH hrel.out.2.2
   have hji:j≤400000:=by have:=hrel.out.1;omega
   have hsz:w.heap.size≤wr.heap.size:=hrel.out.2.1.size
   clear k0 k1 k2 k3 hx0 hx1 hx2 hx3 hcell
   go_upto_region 5 with fail
   obtain⟨w4,hw4⟩:∃w4,w4=wr.alloc (.cells #[.float .f64 x0,.float .f64 x1,.float .f64 x2,.float .f64 x3] 249):=⟨_,rfl⟩
   rw[←hw4]
   have HA:Hid (NmAt w wr.heap.size #[.float .f64 x0,.float .f64 x1,.float .f64 x2,.float .f64 x3] u5 j ((nums 1 (ps.take i)).map flv) w4):=by
    show NmAt _ _ _ _ _ _ _
    rw[hw4]
    exact⟨hrel.out.2.1.alloc _,zN wr _,OWN.out.alloc _,fun e=>by have:=(OWN.out.lt _ e).2;omega⟩
   clear hw4 c0 c1 c2 c3
   have A4:=HA
   have K3:Hid (j+2≤maxLen):=by show _≤_;unfold maxLen;omega
   have K4:Hid ((j+2)*8≤140737488355328):=by show _≤_;omega
   have K5:Hid (∀o,w.heap.size≤(w4.alloc o).heap.size):=fun o=>by
    show _≤(w4.heap.push _).size
    rw[Array.size_push]
    have:=A4.out.fr.size
    omega
   have K7:Hid (∀o,(w4.alloc o).ownsRow w.heap.size 40 1 u5 (j) ((nums 1 (ps.take i)).map flv)):=fun o=>A4.out.own.alloc o
   obtain⟨p0,p1,p2,p3⟩:=pl_cells A4.out.blk
   go_upto_if 23 with (at_builtin;refine wpList_append_own_at _ rfl _ _ 24 rfl w.heap.size 40 i0 (.float .f64 0) 1 8 Tryz.underlying24 hi0 hz0 hz1 hz2 rfl (by decide) _ (j) ((nums 1 (ps.take i)).map flv) rfl (K7.out _) ⟨_,0,none⟩ 2 2 ([x0,x1].map flv) rfl rfl (two_new _ _ _ _) (all_one [x0,x1]) K3.out K4.out (K5.out _) ?_;intro v4 w5 hown1 hgrow1 _ hat;have B4:=zH (A4.out.app hown1 hgrow1 hat);clear hown1 hgrow1 hat)
   clear p0 p1 p2 p3 K3 K4 K5 K7 A4
   have A5:=B4
   have K3:Hid (j+2+1≤maxLen):=by show _≤_;unfold maxLen;omega
   have K4:Hid ((j+2+1)*8≤140737488355328):=by show _≤_;omega
   have K5:Hid (∀o,w.heap.size≤(w5.alloc o).heap.size):=fun o=>by
    show _≤(w5.heap.push _).size
    rw[Array.size_push]
    have:=A5.out.fr.size
    omega
   have K7:Hid (∀o,(w5.alloc o).ownsRow w.heap.size 40 1 v4 (j+2) ((nums 1 (ps.take i)).map flv++[x0,x1].map flv)):=fun o=>A5.out.own.alloc o
   obtain⟨p0,p1,p2,p3⟩:=pl_cells A5.out.blk
   go_upto_if 31 with (at_builtin;refine wpList_append_own_at _ rfl _ _ 24 rfl w.heap.size 40 i0 (.float .f64 0) 1 8 Tryz.underlying24 hi0 hz0 hz1 hz2 rfl (by decide) _ (j+2) ((nums 1 (ps.take i)).map flv++[x0,x1].map flv) rfl (K7.out _) ⟨_,0,none⟩ 1 1 ([x2].map flv) rfl rfl (cell_one_new _ _ _) (all_one [x2]) K3.out K4.out (K5.out _) ?_;intro v5 w6 hown1 hgrow1 _ hat;have B5:=zH (A5.out.app hown1 hgrow1 hat);clear hown1 hgrow1 hat)
   clear p0 p1 p2 p3 K3 K4 K5 K7 A5
   have HR:Hid (j+2+1=(i+1)*3∧ZF w w6∧w6.ownsRow w.heap.size 40 1 v5 (j+2+1) ((nums 1 (ps.take (i+1))).map flv)):=by
    refine⟨by have:=hrel.out.1;omega,B5.out.fr,?_⟩
    rw[HX.out]
    have:=B5.out.own
    simp only[List.append_assoc,List.map_cons,List.map_nil,List.nil_append,List.cons_append,List.append_nil] at this ⊢
    exact this
   clear B5 hrel OWN
   go_wp2_with fail
   go_roundw
   case rel=>exact⟨i+1,j+2+1,_,by go_num,rfl,by omega,HR.out⟩
   case measure=>simp[intOf];omega
  ·have HF:Hid (NumPostN 1 ps w (.returned u5) wr):=by
    obtain⟨va,vc,hv⟩:=slice_shape hrel.out.2.2
    have o:=hrel.out.2.2
    have hiN:i=N:=by omega
    rw[hv] at o ⊢
    have ht:ps.take i=ps:=List.take_of_length_le (by rw[←HN.out];omega)
    rw[ht] at o
    exact⟨va,j,vc,rfl,by rw[nums_len,←HN.out,hrel.out.1,hiN];rfl,hrel.out.2.1,o⟩
   clear hrel
   go_wp2_with fail
   go_ret
   exact HF.out
theorem nums101_2(P:Nat→Prop)(v:Value)(ps:List Plc)(w:World)(h:CellsAt P w v ps.length 4 (ps.flatMap plCells))(hl:ps.length≤100000):Calls Tryz.prog 101 #[v,.int .i64 2] w (NumPostN 2 ps w):=by
 obtain⟨a,cap,rfl,hcp,hc⟩:=PlsAt.at h
 obtain⟨N,hN⟩:∃N,N=ps.length:=⟨_,rfl⟩
 obtain⟨i0,hi0,hz0,hz1,hz2⟩:=info_parts info40
 have HC:=zH hc
 have HN:=zH hN
 rw[←hN] at hcp ⊢
 have hNl:N≤100000:=by omega
 have hst:=st_fl
 have e1:bits .and .i64 2 1=0:=by decide
 have e2:bits .and .i64 2 2=2:=by decide
 clear hc h hN hl
 go_enter Tryz.func101,Tryz.ntmps101
 go_wp2_with fail
 go_loopw [5,10] (fun vv iv wr=>∃(i j:Nat) (v:Value),iv=.int .i64 (i:Int)∧vv=v∧i≤N∧Hid (j=i*3∧ZF w wr∧wr.ownsRow w.heap.size 40 1 v j ((nums 2 (ps.take i)).map flv))) (fun _ iv _=>N - (intOf iv).toNat)
 case atStart=>exact⟨0,0,_,rfl,rfl,Nat.zero_le _,by omega,Fr.refl _ _,World.ownsRow_nil _ _ _ _⟩
 case round =>
  obtain⟨i,j,v,rfl,rfl,hi,hrel⟩:=hrel
  by_cases hlt:i < N
  ·obtain⟨b,o,hab,_,hcell⟩:=HC.out (by rw[←HN.out];omega)
   subst hab
   have hip:i < ps.length:=by rw[←HN.out];exact hlt
   obtain⟨k0,k1,k2,k3⟩:=hcell i hip
   obtain⟨x0,hx0⟩:∃x,x=ps[i].1:=⟨_,rfl⟩
   obtain⟨x1,hx1⟩:∃x,x=ps[i].2.1:=⟨_,rfl⟩
   obtain⟨x2,hx2⟩:∃x,x=ps[i].2.2.1:=⟨_,rfl⟩
   obtain⟨x3,hx3⟩:∃x,x=ps[i].2.2.2:=⟨_,rfl⟩
   rw[←hx0] at k0
   rw[←hx1] at k1
   rw[←hx2] at k2
   rw[←hx3] at k3
   have c0:wr.cell? ⟨b,o+i*4,none⟩=some (.float .f64 x0):=hrel.out.2.1.cell k0 (by simp)
   have c1:wr.cell? ⟨b,o+i*4+1,none⟩=some (.float .f64 x1):=hrel.out.2.1.cell k1 (by simp)
   have c2:wr.cell? ⟨b,o+i*4+2,none⟩=some (.float .f64 x2):=hrel.out.2.1.cell k2 (by simp)
   have c3:wr.cell? ⟨b,o+i*4+3,none⟩=some (.float .f64 x3):=hrel.out.2.1.cell k3 (by simp)
   have HX:Hid ((nums 2 (ps.take (i+1))).map flv=(nums 2 (ps.take i)).map flv++([.float .f64 x0,.float .f64 x1]++[]++[.float .f64 x3])):=by
    show _=_
    rw[List.take_succ_eq_append_getElem hip]
    unfold nums
    rw[List.flatMap_append,List.map_append,hx0,hx1,hx3]
    rfl
   have OWN:=zH hrel.out.2.2
   have hji:j≤400000:=by have:=hrel.out.1;omega
   have hsz:w.heap.size≤wr.heap.size:=hrel.out.2.1.size
   clear k0 k1 k2 k3 hx0 hx1 hx2 hx3 hcell
   go_upto_region 5 with fail
   obtain⟨w4,hw4⟩:∃w4,w4=wr.alloc (.cells #[.float .f64 x0,.float .f64 x1,.float .f64 x2,.float .f64 x3] 249):=⟨_,rfl⟩
   rw[←hw4]
   have HA:Hid (NmAt w wr.heap.size #[.float .f64 x0,.float .f64 x1,.float .f64 x2,.float .f64 x3] u5 j ((nums 2 (ps.take i)).map flv) w4):=by
    show NmAt _ _ _ _ _ _ _
    rw[hw4]
    exact⟨hrel.out.2.1.alloc _,zN wr _,OWN.out.alloc _,fun e=>by have:=(OWN.out.lt _ e).2;omega⟩
   clear hw4 c0 c1 c2 c3
   have A4:=HA
   have K3:Hid (j+2≤maxLen):=by show _≤_;unfold maxLen;omega
   have K4:Hid ((j+2)*8≤140737488355328):=by show _≤_;omega
   have K5:Hid (∀o,w.heap.size≤(w4.alloc o).heap.size):=fun o=>by
    show _≤(w4.heap.push _).size
    rw[Array.size_push]
    have:=A4.out.fr.size
    omega
   have K7:Hid (∀o,(w4.alloc o).ownsRow w.heap.size 40 1 u5 (j) ((nums 2 (ps.take i)).map flv)):=fun o=>A4.out.own.alloc o
   obtain⟨p0,p1,p2,p3⟩:=pl_cells A4.out.blk
   go_upto_if 23 with (at_builtin;refine wpList_append_own_at _ rfl _ _ 24 rfl w.heap.size 40 i0 (.float .f64 0) 1 8 Tryz.underlying24 hi0 hz0 hz1 hz2 rfl (by decide) _ (j) ((nums 2 (ps.take i)).map flv) rfl (K7.out _) ⟨_,0,none⟩ 2 2 ([x0,x1].map flv) rfl rfl (two_new _ _ _ _) (all_one [x0,x1]) K3.out K4.out (K5.out _) ?_;intro v4 w5 hown1 hgrow1 _ hat;have B4:=zH (A4.out.app hown1 hgrow1 hat);clear hown1 hgrow1 hat)
   clear p0 p1 p2 p3 K3 K4 K5 K7 A4
   have A5:=B4
   have K3:Hid (j+2+1≤maxLen):=by show _≤_;unfold maxLen;omega
   have K4:Hid ((j+2+1)*8≤140737488355328):=by show _≤_;omega
   have K5:Hid (∀o,w.heap.size≤(w5.alloc o).heap.size):=fun o=>by
    show _≤(w5.heap.push _).size
    rw[Array.size_push]
    have:=A5.out.fr.size
    omega
   have K7:Hid (∀o,(w5.alloc o).ownsRow w.heap.size 40 1 v4 (j+2) ((nums 2 (ps.take i)).map flv++[x0,x1].map flv)):=fun o=>A5.out.own.alloc o
   obtain⟨p0,p1,p2,p3⟩:=pl_cells A5.out.blk
   go_upto_region 10 with (at_builtin;refine wpList_append_own_at _ rfl _ _ 24 rfl w.heap.size 40 i0 (.float .f64 0) 1 8 Tryz.underlying24 hi0 hz0 hz1 hz2 rfl (by decide) _ (j+2) ((nums 2 (ps.take i)).map flv++[x0,x1].map flv) rfl (K7.out _) ⟨_,0,none⟩ 1 1 ([x3].map flv) rfl rfl (cell_one_new _ _ _) (all_one [x3]) K3.out K4.out (K5.out _) ?_;intro v5 w6 hown1 hgrow1 _ hat;have B5:=zH (A5.out.app hown1 hgrow1 hat);clear hown1 hgrow1 hat)
   clear p0 p1 p2 p3 K3 K4 K5 K7 A5
   have HR:Hid (j+2+1=(i+1)*3∧ZF w w6∧w6.ownsRow w.heap.size 40 1 v5 (j+2+1) ((nums 2 (ps.take (i+1))).map flv)):=by
    refine⟨by have:=hrel.out.1;omega,B5.out.fr,?_⟩
    rw[HX.out]
    have:=B5.out.own
    simp only[List.append_assoc,List.map_cons,List.map_nil,List.nil_append,List.cons_append,List.append_nil] at this ⊢
    exact this
   clear B5 hrel OWN
   go_wp2_with fail
   go_roundw
   case rel=>exact⟨i+1,j+2+1,_,by go_num,rfl,by omega,HR.out⟩
   case measure=>simp[intOf];omega
  ·have HF:Hid (NumPostN 2 ps w (.returned u5) wr):=by
    obtain⟨va,vc,hv⟩:=slice_shape hrel.out.2.2
    have o:=hrel.out.2.2
    have hiN:i=N:=by omega
    rw[hv] at o ⊢
    have ht:ps.take i=ps:=List.take_of_length_le (by rw[←HN.out];omega)
    rw[ht] at o
    exact⟨va,j,vc,rfl,by rw[nums_len,←HN.out,hrel.out.1,hiN];rfl,hrel.out.2.1,o⟩
   clear hrel
   go_wp2_with fail
   go_ret
   exact HF.out
theorem nums101_3(P:Nat→Prop)(v:Value)(ps:List Plc)(w:World)(h:CellsAt P w v ps.length 4 (ps.flatMap plCells))(hl:ps.length≤100000):Calls Tryz.prog 101 #[v,.int .i64 3] w (NumPostN 3 ps w):=by
 obtain⟨a,cap,rfl,hcp,hc⟩:=PlsAt.at h
 obtain⟨N,hN⟩:∃N,N=ps.length:=⟨_,rfl⟩
 obtain⟨i0,hi0,hz0,hz1,hz2⟩:=info_parts info40
 have HC:=zH hc
 have HN:=zH hN
 rw[←hN] at hcp ⊢
 have hNl:N≤100000:=by omega
 have hst:=st_fl
 have e1:bits .and .i64 3 1=1:=by decide
 have e2:bits .and .i64 3 2=2:=by decide
 clear hc h hN hl
 go_enter Tryz.func101,Tryz.ntmps101
 go_wp2_with fail
 go_loopw [5,10] (fun vv iv wr=>∃(i j:Nat) (v:Value),iv=.int .i64 (i:Int)∧vv=v∧i≤N∧Hid (j=i*4∧ZF w wr∧wr.ownsRow w.heap.size 40 1 v j ((nums 3 (ps.take i)).map flv))) (fun _ iv _=>N - (intOf iv).toNat)
 case atStart=>exact⟨0,0,_,rfl,rfl,Nat.zero_le _,by omega,Fr.refl _ _,World.ownsRow_nil _ _ _ _⟩
 case round =>
  obtain⟨i,j,v,rfl,rfl,hi,hrel⟩:=hrel
  by_cases hlt:i < N
  ·obtain⟨b,o,hab,_,hcell⟩:=HC.out (by rw[←HN.out];omega)
   subst hab
   have hip:i < ps.length:=by rw[←HN.out];exact hlt
   obtain⟨k0,k1,k2,k3⟩:=hcell i hip
   obtain⟨x0,hx0⟩:∃x,x=ps[i].1:=⟨_,rfl⟩
   obtain⟨x1,hx1⟩:∃x,x=ps[i].2.1:=⟨_,rfl⟩
   obtain⟨x2,hx2⟩:∃x,x=ps[i].2.2.1:=⟨_,rfl⟩
   obtain⟨x3,hx3⟩:∃x,x=ps[i].2.2.2:=⟨_,rfl⟩
   rw[←hx0] at k0
   rw[←hx1] at k1
   rw[←hx2] at k2
   rw[←hx3] at k3
   have c0:wr.cell? ⟨b,o+i*4,none⟩=some (.float .f64 x0):=hrel.out.2.1.cell k0 (by simp)
   have c1:wr.cell? ⟨b,o+i*4+1,none⟩=some (.float .f64 x1):=hrel.out.2.1.cell k1 (by simp)
   have c2:wr.cell? ⟨b,o+i*4+2,none⟩=some (.float .f64 x2):=hrel.out.2.1.cell k2 (by simp)
   have c3:wr.cell? ⟨b,o+i*4+3,none⟩=some (.float .f64 x3):=hrel.out.2.1.cell k3 (by simp)
   have HX:Hid ((nums 3 (ps.take (i+1))).map flv=(nums 3 (ps.take i)).map flv++([.float .f64 x0,.float .f64 x1]++[.float .f64 x2]++[.float .f64 x3])):=by
    show _=_
    rw[List.take_succ_eq_append_getElem hip]
    unfold nums
    rw[List.flatMap_append,List.map_append,hx0,hx1,hx2,hx3]
    rfl
   have OWN:=zH hrel.out.2.2
   have hji:j≤400000:=by have:=hrel.out.1;omega
   have hsz:w.heap.size≤wr.heap.size:=hrel.out.2.1.size
   clear k0 k1 k2 k3 hx0 hx1 hx2 hx3 hcell
   go_upto_region 5 with fail
   obtain⟨w4,hw4⟩:∃w4,w4=wr.alloc (.cells #[.float .f64 x0,.float .f64 x1,.float .f64 x2,.float .f64 x3] 249):=⟨_,rfl⟩
   rw[←hw4]
   have HA:Hid (NmAt w wr.heap.size #[.float .f64 x0,.float .f64 x1,.float .f64 x2,.float .f64 x3] u5 j ((nums 3 (ps.take i)).map flv) w4):=by
    show NmAt _ _ _ _ _ _ _
    rw[hw4]
    exact⟨hrel.out.2.1.alloc _,zN wr _,OWN.out.alloc _,fun e=>by have:=(OWN.out.lt _ e).2;omega⟩
   clear hw4 c0 c1 c2 c3
   have A4:=HA
   have K3:Hid (j+2≤maxLen):=by show _≤_;unfold maxLen;omega
   have K4:Hid ((j+2)*8≤140737488355328):=by show _≤_;omega
   have K5:Hid (∀o,w.heap.size≤(w4.alloc o).heap.size):=fun o=>by
    show _≤(w4.heap.push _).size
    rw[Array.size_push]
    have:=A4.out.fr.size
    omega
   have K7:Hid (∀o,(w4.alloc o).ownsRow w.heap.size 40 1 u5 (j) ((nums 3 (ps.take i)).map flv)):=fun o=>A4.out.own.alloc o
   obtain⟨p0,p1,p2,p3⟩:=pl_cells A4.out.blk
   go_upto_if 23 with (at_builtin;refine wpList_append_own_at _ rfl _ _ 24 rfl w.heap.size 40 i0 (.float .f64 0) 1 8 Tryz.underlying24 hi0 hz0 hz1 hz2 rfl (by decide) _ (j) ((nums 3 (ps.take i)).map flv) rfl (K7.out _) ⟨_,0,none⟩ 2 2 ([x0,x1].map flv) rfl rfl (two_new _ _ _ _) (all_one [x0,x1]) K3.out K4.out (K5.out _) ?_;intro v4 w5 hown1 hgrow1 _ hat;have B4:=zH (A4.out.app hown1 hgrow1 hat);clear hown1 hgrow1 hat)
   clear p0 p1 p2 p3 K3 K4 K5 K7 A4
   have A5:=B4
   have K3:Hid (j+2+1≤maxLen):=by show _≤_;unfold maxLen;omega
   have K4:Hid ((j+2+1)*8≤140737488355328):=by show _≤_;omega
   have K5:Hid (∀o,w.heap.size≤(w5.alloc o).heap.size):=fun o=>by
    show _≤(w5.heap.push _).size
    rw[Array.size_push]
    have:=A5.out.fr.size
    omega
   have K7:Hid (∀o,(w5.alloc o).ownsRow w.heap.size 40 1 v4 (j+2) ((nums 3 (ps.take i)).map flv++[x0,x1].map flv)):=fun o=>A5.out.own.alloc o
   obtain⟨p0,p1,p2,p3⟩:=pl_cells A5.out.blk
   go_upto_if 31 with (at_builtin;refine wpList_append_own_at _ rfl _ _ 24 rfl w.heap.size 40 i0 (.float .f64 0) 1 8 Tryz.underlying24 hi0 hz0 hz1 hz2 rfl (by decide) _ (j+2) ((nums 3 (ps.take i)).map flv++[x0,x1].map flv) rfl (K7.out _) ⟨_,0,none⟩ 1 1 ([x2].map flv) rfl rfl (cell_one_new _ _ _) (all_one [x2]) K3.out K4.out (K5.out _) ?_;intro v5 w6 hown1 hgrow1 _ hat;have B5:=zH (A5.out.app hown1 hgrow1 hat);clear hown1 hgrow1 hat)
   clear p0 p1 p2 p3 K3 K4 K5 K7 A5
   have A6:=B5
   have K3:Hid (j+2+1+1≤maxLen):=by show _≤_;unfold maxLen;omega
   have K4:Hid ((j+2+1+1)*8≤140737488355328):=by show _≤_;omega
   have K5:Hid (∀o,w.heap.size≤(w6.alloc o).heap.size):=fun o=>by
    show _≤(w6.heap.push _).size
    rw[Array.size_push]
    have:=A6.out.fr.size
    omega
   have K7:Hid (∀o,(w6.alloc o).ownsRow w.heap.size 40 1 v5 (j+2+1) ((nums 3 (ps.take i)).map flv++[x0,x1].map flv++[x2].map flv)):=fun o=>A6.out.own.alloc o
   obtain⟨p0,p1,p2,p3⟩:=pl_cells A6.out.blk
   go_upto_region 10 with (at_builtin;refine wpList_append_own_at _ rfl _ _ 24 rfl w.heap.size 40 i0 (.float .f64 0) 1 8 Tryz.underlying24 hi0 hz0 hz1 hz2 rfl (by decide) _ (j+2+1) ((nums 3 (ps.take i)).map flv++[x0,x1].map flv++[x2].map flv) rfl (K7.out _) ⟨_,0,none⟩ 1 1 ([x3].map flv) rfl rfl (cell_one_new _ _ _) (all_one [x3]) K3.out K4.out (K5.out _) ?_;intro v6 w7 hown1 hgrow1 _ hat;have B6:=zH (A6.out.app hown1 hgrow1 hat);clear hown1 hgrow1 hat)
   clear p0 p1 p2 p3 K3 K4 K5 K7 A6
   have HR:Hid (j+2+1+1=(i+1)*4∧ZF w w7∧w7.ownsRow w.heap.size 40 1 v6 (j+2+1+1) ((nums 3 (ps.take (i+1))).map flv)):=by
    refine⟨by have:=hrel.out.1;omega,B6.out.fr,?_⟩
    rw[HX.out]
    have:=B6.out.own
    simp only[List.append_assoc,List.map_cons,List.map_nil,List.nil_append,List.cons_append] at this ⊢
    exact this
   clear B6 hrel OWN
   go_wp2_with fail
   go_roundw
   case rel=>exact⟨i+1,j+2+1+1,_,by go_num,rfl,by omega,HR.out⟩
   case measure=>simp[intOf];omega
  ·have HF:Hid (NumPostN 3 ps w (.returned u5) wr):=by
    obtain⟨va,vc,hv⟩:=slice_shape hrel.out.2.2
    have o:=hrel.out.2.2
    have hiN:i=N:=by omega
    rw[hv] at o ⊢
    have ht:ps.take i=ps:=List.take_of_length_le (by rw[←HN.out];omega)
    rw[ht] at o
    exact⟨va,j,vc,rfl,by rw[nums_len,←HN.out,hrel.out.1,hiN];rfl,hrel.out.2.1,o⟩
   clear hrel
   go_wp2_with fail
   go_ret
   exact HF.out
end Go.Proofs.YtnjjgbcmjnfijaaGreatDoor
