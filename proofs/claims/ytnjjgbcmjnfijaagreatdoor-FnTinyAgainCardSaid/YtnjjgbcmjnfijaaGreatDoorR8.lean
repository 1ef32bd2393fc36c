/- The package's points: several points made of them. No condition. -/
import Derived.Test.YtnjjgbcmjnfijaaGreatDoorR4
import Derived.Test.YtnjjgbcmjnfijaaGreatDoorG6
namespace Go.Proofs.YtnjjgbcmjnfijaaGreatDoor
set_option maxRecDepth 100000
set_option maxHeartbeats 8000000
open Go.RowKit
def Ac (v:Value) (w:World) (e:Ending) (w':World):Prop:=e=.returned v∧ZF w w'
theorem ac289(x y z m d:Nat)(hd:d≤3)(w:World):Calls Tryz.prog 289 #[.agg #[.float .f64 x,.float .f64 y,.float .f64 z,.float .f64 m,.int .u8 d,.bool true],.int .u8 d] w (Ac (.agg #[.float .f64 x,.float .f64 y,.float .f64 z,.float .f64 m,.int .u8 d,.bool true]) w):=by
 have hsf:=st_fl
 obtain⟨z1,hz1⟩:∃z1,z1=(d % 2 == 1):=⟨_,rfl⟩
 obtain⟨z2,hz2⟩:∃z2,z2=(d / 2 % 2 == 1):=⟨_,rfl⟩
 have C70:Hid (∀w1,Calls Tryz.prog 70 #[.int .u8 d] w1 fun e w'=>e=.returned (.bool z1)∧w'=w1):=fun w1=>by rw[hz1];exact ac70 d hd w1
 have C71:Hid (∀w1,Calls Tryz.prog 71 #[.int .u8 d] w1 fun e w'=>e=.returned (.bool z2)∧w'=w1):=fun w1=>by rw[hz2];exact ac71 d hd w1
 have e1:(z1 != z1)=false:=by simp
 have e2:(z2 != z2)=false:=by simp
 clear hz1 hz2
 go_enter Tryz.func289,Tryz.ntmps289
 go_upto_region 3 with fail
 go_quiet ((go_at_call 70;exact Calls.quiet_of_same (C70.out _)))
 go_upto_region 5 with fail
 go_quiet ((go_at_call 71;exact quiet_add_same (C71.out _)))
 generalize hwA:((w.alloc _).alloc _).drewN _=wA
 generalize hw2:wA.drewN _=w2
 have s1:(w.alloc (.cells #[.float .f64 x,.float .f64 y,.float .f64 z,.float .f64 m,.int .u8 d,.bool true] 115)).heap.size=w.heap.size+1:=by show (w.heap.push _).size=_;rw[Array.size_push]
 have b0:w2.heap[w.heap.size]?=some (.cells #[.float .f64 x,.float .f64 y,.float .f64 z,.float .f64 m,.int .u8 d,.bool true] 115 (0,0)):=by rw[←hw2,←hwA];exact (Below.heap_alloc _ _ _ (by omega)).trans (zN w _)
 have b1:w2.heap[w.heap.size+1]?=some (.cells #[.float .f64 0,.float .f64 0,.float .f64 0,.float .f64 0,.int .u8 0,.bool false] 115 (0,0)):=by rw[←hw2,←hwA,←s1];exact zN _ _
 have f2:ZF w w2:=by rw[←hw2,←hwA];exact ((((Fr.refl _ w).alloc _).alloc _).drewN _).drewN _
 have F2:=zH f2
 have B:=zH (⟨b0,b1⟩:_∧_)
 clear hw2 hwA f2
 have p0:w2.cell? ⟨w.heap.size,0,none⟩=some (.float .f64 x):=by rw[zC b0];rfl
 have p1:w2.cell? ⟨w.heap.size,1,none⟩=some (.float .f64 y):=by rw[zC b0];rfl
 have p2:w2.cell? ⟨w.heap.size,2,none⟩=some (.float .f64 z):=by rw[zC b0];rfl
 have p3:w2.cell? ⟨w.heap.size,3,none⟩=some (.float .f64 m):=by rw[zC b0];rfl
 have p4:w2.cell? ⟨w.heap.size,4,none⟩=some (.int .u8 d):=by rw[zC b0];rfl
 have p5:w2.cell? ⟨w.heap.size,5,none⟩=some (.bool true):=by rw[zC b0];rfl
 have pf:∀i,w2.frozen? ⟨w.heap.size,i,none⟩=false:=fun i=>zF b0 i
 have q0:w2.cell? ⟨w.heap.size+1,0,none⟩=some (.float .f64 0):=by rw[zC b1];rfl
 have q1:w2.cell? ⟨w.heap.size+1,1,none⟩=some (.float .f64 0):=by rw[zC b1];rfl
 have q2:w2.cell? ⟨w.heap.size+1,2,none⟩=some (.float .f64 0):=by rw[zC b1];rfl
 have q3:w2.cell? ⟨w.heap.size+1,3,none⟩=some (.float .f64 0):=by rw[zC b1];rfl
 have q4:w2.cell? ⟨w.heap.size+1,4,none⟩=some (.int .u8 0):=by rw[zC b1];rfl
 have q5:w2.cell? ⟨w.heap.size+1,5,none⟩=some (.bool false):=by rw[zC b1];rfl
 have qf:∀i,w2.frozen? ⟨w.heap.size+1,i,none⟩=false:=fun i=>zF b1 i
 clear b0 b1
 go_upto_region 8 with fail
 obtain⟨w3,hw3⟩:∃w3,w3=w2.setCell ⟨w.heap.size,4,none⟩ (.int .u8 d):=⟨_,rfl⟩
 rw[←hw3]
 have f3:ZF w2 w3:=by rw[hw3];exact (Fr.refl _ w2).same B.out.1 4 _ rfl
 have F3:=zH f3
 have b0:=(f3.block _ (zG B.out.1).1 (fun h=>h)).trans B.out.1
 have b1:=(f3.block _ (zG B.out.2).1 (fun h=>h)).trans B.out.2
 clear hw3 f3 p0 q0 p1 q1 p2 q2 p3 q3 p4 q4 p5 q5 pf qf
 have p0:w3.cell? ⟨w.heap.size,0,none⟩=some (.float .f64 x):=by rw[zC b0];rfl
 have p1:w3.cell? ⟨w.heap.size,1,none⟩=some (.float .f64 y):=by rw[zC b0];rfl
 have p2:w3.cell? ⟨w.heap.size,2,none⟩=some (.float .f64 z):=by rw[zC b0];rfl
 have p3:w3.cell? ⟨w.heap.size,3,none⟩=some (.float .f64 m):=by rw[zC b0];rfl
 have p4:w3.cell? ⟨w.heap.size,4,none⟩=some (.int .u8 d):=by rw[zC b0];rfl
 have p5:w3.cell? ⟨w.heap.size,5,none⟩=some (.bool true):=by rw[zC b0];rfl
 have q0:w3.cell? ⟨w.heap.size+1,0,none⟩=some (.float .f64 0):=by rw[zC b1];rfl
 have q1:w3.cell? ⟨w.heap.size+1,1,none⟩=some (.float .f64 0):=by rw[zC b1];rfl
 have q2:w3.cell? ⟨w.heap.size+1,2,none⟩=some (.float .f64 0):=by rw[zC b1];rfl
 have q3:w3.cell? ⟨w.heap.size+1,3,none⟩=some (.float .f64 0):=by rw[zC b1];rfl
 have q4:w3.cell? ⟨w.heap.size+1,4,none⟩=some (.int .u8 0):=by rw[zC b1];rfl
 have q5:w3.cell? ⟨w.heap.size+1,5,none⟩=some (.bool false):=by rw[zC b1];rfl
 have qf:∀i,w3.frozen? ⟨w.heap.size+1,i,none⟩=false:=fun i=>zF b1 i
 clear b0 b1
 go_wp2_with fail
 refine bodyPost_ret (v:=.agg #[.float .f64 x,.float .f64 y,.float .f64 z,.float .f64 m,.int .u8 d,.bool true]) (by simp[results,Tryz.f289,go_sem,q0,q1,q2,q3,q4,q5]) rfl ⟨rfl,?_⟩
 have fS:∀v0 v1 v2 v3 v4 v5,Fr (Eq (w.heap.size+1)) w3 ((((((w3.setCell ⟨w.heap.size+1,0,none⟩ v0).setCell ⟨w.heap.size+1,1,none⟩ v1).setCell ⟨w.heap.size+1,2,none⟩ v2).setCell ⟨w.heap.size+1,3,none⟩ v3).setCell ⟨w.heap.size+1,4,none⟩ v4).setCell ⟨w.heap.size+1,5,none⟩ v5):=fun v0 v1 v2 v3 v4 v5=>((((((Fr.refl _ w3).setR v0).setR v1).setR v2).setR v3).setR v4).setR v5
 exact (F2.out.trans F3.out).transNew (fS _ _ _ _ _ _) (fun b e=>.inl (by omega))
def FillAt (g:Nat) (tid:TypeId) (ys:List Value) (r:Nat) (w:World):Prop:=∃rest:List Value,rest.length=r∧w.heap[g]?=some (.cells (ys++rest).toArray tid (0,0))
theorem FillAt.start(w:World)(z:Array Value)(n:Nat)(tid:TypeId):FillAt w.heap.size tid [] n (w.alloc (.cells (madeCells z n) tid)):=⟨(madeCells z n).toList,by rw[Array.length_toList,size_madeCells],by rw[zN];simp⟩
theorem FillAt.keep{g:Nat}{tid:TypeId}{ys:List Value}{r:Nat}{R:Nat→Prop}{w w':World}(h:FillAt g tid ys r w)(f:Fr R w w')(hn:¬R g):FillAt g tid ys r w':=by
 obtain⟨rest,h1,h2⟩:=h
 exact⟨rest,h1,(f.block g (zG h2).1 hn).trans h2⟩
theorem FillAt.lt{g:Nat}{tid:TypeId}{ys:List Value}{r:Nat}{w:World}(h:FillAt g tid ys r w):g < w.heap.size:=(zG h.choose_spec.2).1
theorem FillAt.one{g:Nat}{tid:TypeId}{ys:List Value}{r:Nat}{w:World}(h:FillAt g tid ys (r+1) w)(v:Value):FillAt g tid (ys++[v]) r (w.setCell ⟨g,ys.length,none⟩ v):=by
 obtain⟨rest,h1,h2⟩:=h
 match rest,h1 with
 | a :: rest,h1 =>
  refine⟨rest,by simpa using h1,?_⟩
  rw[Lib.heap_setCell_same h2]
  congr 2
  apply Array.toList_inj.1
  simp
theorem FillAt.cell{g:Nat}{tid:TypeId}{ys:List Value}{r:Nat}{w:World}(h:FillAt g tid ys r w)(k:Nat)(hk:k < ys.length+r):∃v,w.cell? ⟨g,k,none⟩=some v:=by
 obtain⟨rest,h1,h2⟩:=h
 rw[zC h2]
 exact⟨_,Array.getElem?_eq_getElem (by simp;omega)⟩
theorem FillAt.fz{g:Nat}{tid:TypeId}{ys:List Value}{r:Nat}{w:World}(h:FillAt g tid ys r w)(k:Nat):w.frozen? ⟨g,k,none⟩=false:=zF h.choose_spec.2 k
theorem FillAt.done{g:Nat}{tid:TypeId}{ys:List Value}{w:World}(h:FillAt g tid ys 0 w):∀j u,ys[j]?=some u→w.cell? ⟨g,0+j,none⟩=some u:=by
 obtain⟨rest,h1,h2⟩:=h
 have:rest=[]:=List.eq_nil_of_length_eq_zero h1
 subst this
 intro j u hu
 rw[zC h2,Nat.zero_add]
 simpa using hu
theorem pt_at{d:Nat}{P:Nat→Prop}{w:World}{g o n c:Nat}{xs:List (List Nat)}(h:RowsAt (PtE d) P 6 w (.slice (some ⟨g,o,none⟩) n c) xs){i:Nat}(hi:i < xs.length):
  ∃x y z m:Nat,xs[i]=numsOf d (x,y,z,m)∧w.cell? ⟨g,o+i*6,none⟩=some (.float .f64 x)∧w.cell? ⟨g,o+i*6+1,none⟩=some (.float .f64 y)∧w.cell? ⟨g,o+i*6+2,none⟩=some (.float .f64 z)∧w.cell? ⟨g,o+i*6+3,none⟩=some (.float .f64 m)∧w.cell? ⟨g,o+i*6+4,none⟩=some (.int .u8 d)∧w.cell? ⟨g,o+i*6+5,none⟩=some (.bool true):=by
 obtain⟨a,cap,e,_,hc⟩:=h.at
 obtain⟨b,o',cs,rfl,_,_,hE,hx⟩:=hc i hi
 injection e with e1 _ _
 injection e1 with e1
 injection e1 with e1 e2 _
 subst e1 e2
 obtain⟨x,y,z,m,rfl,hxs⟩:=hE
 exact⟨x,y,z,m,hxs,hx 0 _ rfl,hx 1 _ rfl,hx 2 _ rfl,hx 3 _ rfl,hx 4 _ rfl,hx 5 _ rfl⟩
theorem info115:(Tryz.prog.info? 115).map (fun i=>(i.zero,i.size,i.bytes))=some (some (.agg #[.float .f64 0,.float .f64 0,.float .f64 0,.float .f64 0,.int .u8 0,.bool false]),6,48):=by kernel_rfl
theorem make57(n:Nat)(h:n≤1000000000):∀w,(Instr.makeSlice 57 (.int .i64 n) (.int .i64 n)).run Tryz.prog w=.ok (.slice (some ⟨w.heap.size,0,none⟩) n n) (w.alloc (.cells (madeCells #[.float .f64 0,.float .f64 0,.float .f64 0,.float .f64 0,.int .u8 0,.bool false] (n*6)) 115)):=by
 obtain⟨j0,hj0,jz0,jz1,jz2⟩:=info_parts info115
 intro w
 have:=run_make (P:=Tryz.prog) w 57 115 j0 _ Tryz.underlying57 hj0 jz0 .i64 .i64 n n (by omega) (Int.le_refl _) (by rw[jz2];omega) (by omega)
 rw[this,jz1,Int.toNat_natCast]
 rfl
def ptCells (d:Nat) (p:Plc):List Value:=[.float .f64 p.1,.float .f64 p.2.1,.float .f64 p.2.2.1,.float .f64 p.2.2.2,.int .u8 d,.bool true]
theorem pts_flat(d:Nat)(ps:List Plc):(ps.map (ptCells d)).flatten.length=ps.length*6:=by
 induction ps with
 | nil=>rfl
 | cons p ps ih=>rw[List.map_cons,List.flatten_cons,List.length_append,ih,List.length_cons,Nat.succ_mul];simp[ptCells];omega
theorem pts_rows{d:Nat}{P:Nat→Prop}{w:World}{g n c:Nat}{ps:List Plc}{xs:List (List Nat)}(hx:xs=ps.map (numsOf d))(hn:n=ps.length)(hc:n≤c)(hP:P g)(h:∀j u,(ps.map (ptCells d)).flatten[j]?=some u→w.cell? ⟨g,0+j,none⟩=some u):RowsAt (PtE d) P 6 w (.slice (some ⟨g,0,none⟩) n c) xs:=by
 subst hx hn
 refine⟨ps.map (ptCells d),⟨by rw[pts_flat,List.length_map],some ⟨g,0,none⟩,c,by rw[List.length_map],by rw[List.length_map];exact hc,(fun e=>by cases e),fun _=>⟨g,0,rfl,hP,h⟩⟩,by simp,fun i c x hc hx=>?_⟩
 rw[List.getElem?_map] at hc hx
 cases hp:ps[i]? with
 | none=>rw[hp] at hc;simp at hc
 | some p =>
  rw[hp] at hc hx
  simp at hc hx
  subst hc hx
  exact⟨rfl,p.1,p.2.1,p.2.2.1,p.2.2.2,rfl,rfl⟩
def RwPost (d:Nat) (xs:List (List Nat)) (w:World) (e:Ending) (w':World):Prop :=
 ∃g n:Nat,e=.returned (.slice (some ⟨g,0,none⟩) n n)∧Hid (ZF w w'∧n=xs.length∧RowsAt (PtE d) (fun b=>w.heap.size≤b) 6 w' (.slice (some ⟨g,0,none⟩) n n) xs)
theorem pts233{d:Nat}(hd:d≤3){P:Nat→Prop}{w:World}{g o n c:Nat}{xs:List (List Nat)}(h:RowsAt (PtE d) P 6 w (.slice (some ⟨g,o,none⟩) n c) xs)(hnx:n=xs.length)(hn:0 < n)(hn4:n≤4096):
  Calls Tryz.prog 233 #[.slice (some ⟨g,o,none⟩) n c,.int .u8 d] w (RwPost d xs w):=by
 have hmk:=make57 n (by omega)
 obtain⟨G,hG⟩:∃G,G=w.heap.size:=⟨_,rfl⟩
 obtain⟨w0,hw0⟩:∃w0,w0=w.alloc (.cells (madeCells #[.float .f64 0,.float .f64 0,.float .f64 0,.float .f64 0,.int .u8 0,.bool false] (n*6)) 115):=⟨_,rfl⟩
 have f0:ZF w w0:=by rw[hw0];exact (Fr.refl _ w).alloc _
 have g0:FillAt G 115 [] (n*6) w0:=by rw[hw0,hG];exact FillAt.start _ _ _ _
 have hsf:=st_fl
 have H:=zH h
 have HX:=zH hnx
 have HG:=zH hG
 have HW0:=zH hw0
 have F0:=zH f0
 have G0:=zH g0
 have C289:=zH (fun x y z m w1=>ac289 x y z m d hd w1)
 have hnI:(n:Int)≤4096:=by omega
 clear h hnx hG hw0 f0 g0
 go_enter Tryz.func233,Tryz.ntmps233
 go_upto_region 2 with fail
 rw[←HG.out,←HW0.out]
 clear hmk
 go_upto_region 3 with fail
 go_loopw [13] (fun iv wr=>∃(i:Nat),i≤n∧iv=.int .i64 (i:Int)∧Hid (Fr (Eq G) w0 wr∧∃ps:List Plc,ps.length=i∧ps.map (numsOf d)=xs.take i∧FillAt G 115 (ps.map (ptCells d)).flatten ((n - i)*6) wr)) (fun iv _=>n - (intOf iv).toNat)
 case atStart=>exact⟨0,Nat.zero_le _,rfl,Fr.refl _ _,[],rfl,rfl,G0.out⟩
 case round =>
  obtain⟨i,hi,rfl,hrel⟩:=hrel
  by_cases hlt:i < n
  ·obtain⟨x,y,z,m,hxi,q0,q1,q2,q3,q4,q5⟩:=pt_at H.out (i:=i) (by rw[←HX.out];exact hlt)
   have hgw:g < w.heap.size:=World.block_lt_of_cell? w _ q0
   have hgG:¬G=g:=by rw[HG.out];omega
   have FF:Hid (Fr (Eq G) w wr):=(F0.out.weak (fun _ h=>h.elim)).trans hrel.out.1
   have p0:=FF.out.cell q0 hgG
   have p1:=FF.out.cell q1 hgG
   have p2:=FF.out.cell q2 hgG
   have p3:=FF.out.cell q3 hgG
   have p4:=FF.out.cell q4 hgG
   have p5:=FF.out.cell q5 hgG
   have hgr:g < wr.heap.size:=World.block_lt_of_cell? wr _ p0
   obtain⟨ps,hpl,hpx,hfill⟩:=hrel.out.2
   have HPL:=zH hpl
   have HPX:=zH hpx
   have HFI:=zH hfill
   have FW:=zH hrel.out.1
   have HXI:=zH hxi
   clear q0 q1 q2 q3 q4 q5 hxi hpl hpx hfill hrel
   go_upto_region 5 with fail
   obtain⟨w1,hw1⟩:∃w1,w1=wr.alloc (.cells #[.float .f64 x,.float .f64 y,.float .f64 z,.float .f64 m,.int .u8 d,.bool true] 115):=⟨_,rfl⟩
   rw[←hw1]
   have f1:ZF wr w1:=by rw[hw1];exact (Fr.refl _ wr).alloc _
   have b1:w1.heap[wr.heap.size]?=some (.cells #[.float .f64 x,.float .f64 y,.float .f64 z,.float .f64 m,.int .u8 d,.bool true] 115 (0,0)):=by rw[hw1];exact zN wr _
   clear hw1 p0 p1 p2 p3 p4 p5
   have p0:w1.cell? ⟨wr.heap.size,0,none⟩=some (.float .f64 x):=by rw[zC b1];rfl
   have p1:w1.cell? ⟨wr.heap.size,1,none⟩=some (.float .f64 y):=by rw[zC b1];rfl
   have p2:w1.cell? ⟨wr.heap.size,2,none⟩=some (.float .f64 z):=by rw[zC b1];rfl
   have p3:w1.cell? ⟨wr.heap.size,3,none⟩=some (.float .f64 m):=by rw[zC b1];rfl
   have p4:w1.cell? ⟨wr.heap.size,4,none⟩=some (.int .u8 d):=by rw[zC b1];rfl
   have p5:w1.cell? ⟨wr.heap.size,5,none⟩=some (.bool true):=by rw[zC b1];rfl
   have F1:=zH f1
   clear f1 b1
   have HNI:Hid (i*6+6≤i*6+(n - i)*6):=by
    show _≤_
    have:1*6≤(n - i)*6:=Nat.mul_le_mul_right _ (by omega)
    omega
   have hGr:¬(wr.heap.size=G):=by
    have:=FF.out.size
    have h2:=HFI.out.lt
    omega
   have s1:∀(W:World) (v:Value) (a0:Value),W.cell? ⟨G,i*6+1,none⟩=some v→(W.setCell ⟨G,i*6,none⟩ a0).cell? ⟨G,i*6+1,none⟩=some v:=fun W v a0 h=>by
    refine Eq.trans (World.cell?_setCell_other _ _ _ _ (by intro e;injection e with _ e _;omega)) ?_
    exact h
   have s2:∀(W:World) (v:Value) (a0 a1:Value),W.cell? ⟨G,i*6+2,none⟩=some v→((W.setCell ⟨G,i*6,none⟩ a0).setCell ⟨G,i*6+1,none⟩ a1).cell? ⟨G,i*6+2,none⟩=some v:=fun W v a0 a1 h=>by
    refine Eq.trans (World.cell?_setCell_other _ _ _ _ (by intro e;injection e with _ e _;omega)) ?_
    refine Eq.trans (World.cell?_setCell_other _ _ _ _ (by intro e;injection e with _ e _;omega)) ?_
    exact h
   have s3:∀(W:World) (v:Value) (a0 a1 a2:Value),W.cell? ⟨G,i*6+3,none⟩=some v→(((W.setCell ⟨G,i*6,none⟩ a0).setCell ⟨G,i*6+1,none⟩ a1).setCell ⟨G,i*6+2,none⟩ a2).cell? ⟨G,i*6+3,none⟩=some v:=fun W v a0 a1 a2 h=>by
    refine Eq.trans (World.cell?_setCell_other _ _ _ _ (by intro e;injection e with _ e _;omega)) ?_
    refine Eq.trans (World.cell?_setCell_other _ _ _ _ (by intro e;injection e with _ e _;omega)) ?_
    refine Eq.trans (World.cell?_setCell_other _ _ _ _ (by intro e;injection e with _ e _;omega)) ?_
    exact h
   have s4:∀(W:World) (v:Value) (a0 a1 a2 a3:Value),W.cell? ⟨G,i*6+4,none⟩=some v→((((W.setCell ⟨G,i*6,none⟩ a0).setCell ⟨G,i*6+1,none⟩ a1).setCell ⟨G,i*6+2,none⟩ a2).setCell ⟨G,i*6+3,none⟩ a3).cell? ⟨G,i*6+4,none⟩=some v:=fun W v a0 a1 a2 a3 h=>by
    refine Eq.trans (World.cell?_setCell_other _ _ _ _ (by intro e;injection e with _ e _;omega)) ?_
    refine Eq.trans (World.cell?_setCell_other _ _ _ _ (by intro e;injection e with _ e _;omega)) ?_
    refine Eq.trans (World.cell?_setCell_other _ _ _ _ (by intro e;injection e with _ e _;omega)) ?_
    refine Eq.trans (World.cell?_setCell_other _ _ _ _ (by intro e;injection e with _ e _;omega)) ?_
    exact h
   have s5:∀(W:World) (v:Value) (a0 a1 a2 a3 a4:Value),W.cell? ⟨G,i*6+5,none⟩=some v→(((((W.setCell ⟨G,i*6,none⟩ a0).setCell ⟨G,i*6+1,none⟩ a1).setCell ⟨G,i*6+2,none⟩ a2).setCell ⟨G,i*6+3,none⟩ a3).setCell ⟨G,i*6+4,none⟩ a4).cell? ⟨G,i*6+5,none⟩=some v:=fun W v a0 a1 a2 a3 a4 h=>by
    refine Eq.trans (World.cell?_setCell_other _ _ _ _ (by intro e;injection e with _ e _;omega)) ?_
    refine Eq.trans (World.cell?_setCell_other _ _ _ _ (by intro e;injection e with _ e _;omega)) ?_
    refine Eq.trans (World.cell?_setCell_other _ _ _ _ (by intro e;injection e with _ e _;omega)) ?_
    refine Eq.trans (World.cell?_setCell_other _ _ _ _ (by intro e;injection e with _ e _;omega)) ?_
    refine Eq.trans (World.cell?_setCell_other _ _ _ _ (by intro e;injection e with _ e _;omega)) ?_
    exact h
   have S:=zH (⟨s1,s2,s3,s4,s5⟩:_∧_∧_∧_∧_)
   clear s1 s2 s3 s4 s5
   go_upto_region 6 with (go_at_call 289;refine (C289.out _ _ _ _ _).mono ?_;rintro e w2 ⟨rfl,f2⟩;have FI2:=zH ((HFI.out.keep F1.out (fun h=>h)).keep f2 (fun h=>h));have F2:=zH f2;obtain⟨v0,k0⟩:=FI2.out.cell (i*6) (by rw[pts_flat,HPL.out];have:=HNI.out;omega);obtain⟨v1,k1⟩:=FI2.out.cell (i*6+1) (by rw[pts_flat,HPL.out];have:=HNI.out;omega);obtain⟨v2,k2⟩:=FI2.out.cell (i*6+2) (by rw[pts_flat,HPL.out];have:=HNI.out;omega);obtain⟨v3,k3⟩:=FI2.out.cell (i*6+3) (by rw[pts_flat,HPL.out];have:=HNI.out;omega);obtain⟨v4,k4⟩:=FI2.out.cell (i*6+4) (by rw[pts_flat,HPL.out];have:=HNI.out;omega);obtain⟨v5,k5⟩:=FI2.out.cell (i*6+5) (by rw[pts_flat,HPL.out];have:=HNI.out;omega);have k1:=fun (a0:Value)=>S.out.1 w2 v1 a0 k1;have k2:=fun (a0 a1:Value)=>S.out.2.1 w2 v2 a0 a1 k2;have k3:=fun (a0 a1 a2:Value)=>S.out.2.2.1 w2 v3 a0 a1 a2 k3;have k4:=fun (a0 a1 a2 a3:Value)=>S.out.2.2.2.1 w2 v4 a0 a1 a2 a3 k4;have k5:=fun (a0 a1 a2 a3 a4:Value)=>S.out.2.2.2.2 w2 v5 a0 a1 a2 a3 a4 k5;have fz:=FI2.out.fz;clear f2)
   have HR:Hid (Fr (Eq G) w0 ((((((w2.setCell ⟨G,i*6,none⟩ (.float .f64 x)).setCell ⟨G,i*6+1,none⟩ (.float .f64 y)).setCell ⟨G,i*6+2,none⟩ (.float .f64 z)).setCell ⟨G,i*6+3,none⟩ (.float .f64 m)).setCell ⟨G,i*6+4,none⟩ (.int .u8 d)).setCell ⟨G,i*6+5,none⟩ (.bool true))∧∃ps:List Plc,ps.length=i+1∧ps.map (numsOf d)=xs.take (i+1)∧FillAt G 115 (ps.map (ptCells d)).flatten ((n - (i+1))*6) ((((((w2.setCell ⟨G,i*6,none⟩ (.float .f64 x)).setCell ⟨G,i*6+1,none⟩ (.float .f64 y)).setCell ⟨G,i*6+2,none⟩ (.float .f64 z)).setCell ⟨G,i*6+3,none⟩ (.float .f64 m)).setCell ⟨G,i*6+4,none⟩ (.int .u8 d)).setCell ⟨G,i*6+5,none⟩ (.bool true))):=by
    have e6:(n - i)*6=(n - (i+1))*6+1+1+1+1+1+1:=by omega
    refine⟨((((((((FW.out.trans (F1.out.weak (fun _ h=>h.elim))).trans (F2.out.weak (fun _ h=>h.elim))).setR _).setR _).setR _).setR _).setR _).setR _),ps++[(x,y,z,m)],by rw[List.length_append,HPL.out];rfl,?_,?_⟩
    ·rw[List.map_append,HPX.out,List.take_succ_eq_append_getElem (by rw[←HX.out];exact hlt),HXI.out]
     rfl
    ·have hf:=FI2.out
     have hl:=pts_flat d ps
     rw[HPL.out] at hl
     rw[e6] at hf
     have a0:=hf.one (.float .f64 x)
     rw[hl] at a0
     have a1:=a0.one (.float .f64 y)
     rw[List.length_append,hl] at a1
     have a2:=a1.one (.float .f64 z)
     rw[List.length_append,List.length_append,hl] at a2
     have a3:=a2.one (.float .f64 m)
     rw[List.length_append,List.length_append,List.length_append,hl] at a3
     have a4:=a3.one (.int .u8 d)
     rw[List.length_append,List.length_append,List.length_append,List.length_append,hl] at a4
     have a5:=a4.one (.bool true)
     rw[List.length_append,List.length_append,List.length_append,List.length_append,List.length_append,hl] at a5
     have e:((ps++[(x,y,z,m)]).map (ptCells d)).flatten=(ps.map (ptCells d)).flatten++[.float .f64 x]++[.float .f64 y]++[.float .f64 z]++[.float .f64 m]++[.int .u8 d]++[.bool true]:=by simp[ptCells]
     rw[e]
     exact a5
   clear FI2 F2 fz k0 k1 k2 k3 k4 k5 FF FW HFI F1 p0 p1 p2 p3 p4 p5
   go_wp2_with fail
   go_roundw
   case rel=>exact⟨i+1,by omega,by go_num,HR.out⟩
   case measure=>simp[intOf];omega
  ·have hin:i=n:=by omega
   subst hin
   have HF:Hid (RwPost d xs w (.returned (.slice (some ⟨G,0,none⟩) i i)) wr):=by
    obtain⟨ps,hpl,hpx,hfill⟩:=hrel.out.2
    rw[List.take_of_length_le (by rw[←HX.out];exact Nat.le_refl _)] at hpx
    rw[Nat.sub_self,Nat.zero_mul] at hfill
    exact⟨G,i,rfl,F0.out.transNew hrel.out.1 (fun b e=>.inl (by have:=HG.out;omega)),HX.out,pts_rows hpx.symm hpl.symm (Nat.le_refl _) (by show _≤_;rw[HG.out];exact Nat.le_refl _) hfill.done⟩
   clear hrel
   go_wp2_with fail
   go_ret
   exact HF.out
theorem new165{d:Nat}(hd:d≤3){P:Nat→Prop}{w:World}{g o n c:Nat}{xs:List (List Nat)}(h:RowsAt (PtE d) P 6 w (.slice (some ⟨g,o,none⟩) n c) xs)(hnx:n=xs.length)(hn:0 < n)(hn4:n≤4096):
  Calls Tryz.prog 165 #[.slice (some ⟨g,o,none⟩) n c] w (NwPost (PtE d) 6 d (fun b=>w.heap.size≤b) xs w):=by
 have hb3:=and_u8 ⟨d,by omega⟩
 obtain⟨hb3a,hb3b⟩:=hb3
 simp only at hb3a hb3b
 have HBA:=zH hb3a
 have HBB:=zH hb3b
 have HH:=zH h
 have HX:=zH hnx
 have C132:=zH ac132
 have hsf:=st_fl
 have hnz:((n:Int) == 0)=false:=by simp;omega
 obtain⟨w0,hw0⟩:∃w0,w0=w.alloc (.cells #[.slice none 0 0,.int .u8 0] 130):=⟨_,rfl⟩
 have f0:ZF w w0:=by rw[hw0];exact (Fr.refl _ w).alloc _
 have s0:w0.heap.size=w.heap.size+1:=by rw[hw0];show (w.heap.push _).size=_;rw[Array.size_push]
 have b0:w0.heap[w.heap.size]?=some (.cells #[.slice none 0 0,.int .u8 0] 130 (0,0)):=by rw[hw0];exact zN w _
 have F0:=zH f0
 have B0:=zH b0
 have HW0:=zH hw0
 clear h hnx f0 b0 hw0 hb3a hb3b
 go_enter Tryz.func165,Tryz.ntmps165
 go_upto_region 4 with fail
 rw[←HW0.out]
 go_upto_region 5 with fail
 go_loopw [3,13] (fun cv iv wr=>∃(i c3:Nat),i≤n∧iv=.int .i64 (i:Int)∧cv=.int .u8 (c3:Int)∧Hid ((i=0→c3=3)∧(0 < i→c3=d)∧ZF w0 wr)) (fun _ iv _=>n - (intOf iv).toNat)
 case atStart=>exact⟨0,3,Nat.zero_le _,rfl,rfl,fun _=>rfl,fun h=>absurd h (by decide),Fr.refl _ _⟩
 case round =>
  obtain⟨i,c3,hi,rfl,rfl,hrel⟩:=hrel
  by_cases hlt:i < n
  ·obtain⟨x,y,z,m,hxi,q0,q1,q2,q3,q4,q5⟩:=pt_at HH.out (i:=i) (by rw[←HX.out];exact hlt)
   have FF:Hid (ZF w wr):=F0.out.trans hrel.out.2.2
   have p0:=FF.out.cell q0 (fun h=>h)
   have p1:=FF.out.cell q1 (fun h=>h)
   have p2:=FF.out.cell q2 (fun h=>h)
   have p3:=FF.out.cell q3 (fun h=>h)
   have p4:=FF.out.cell q4 (fun h=>h)
   have p5:=FF.out.cell q5 (fun h=>h)
   have hgr:g < wr.heap.size:=World.block_lt_of_cell? wr _ p0
   have hb:bits .and .u8 (c3:Int) (d:Int)=(d:Int):=by
    rcases Nat.eq_zero_or_pos i with h0|h0
    ·rw[hrel.out.1 h0];exact HBA.out
    ·rw[hrel.out.2.1 h0];exact HBB.out
   have HXI:=zH hxi
   clear q0 q1 q2 q3 q4 q5 hxi
   go_wp2_with (go_at_call 132;refine (C132.out _ _ _ _ _ _ _).mono ?_;rintro e w1 ⟨rfl,rfl⟩)
   have HR:Hid ((i+1=0→d=3)∧(0 < i+1→d=d)∧ZF w0 ((wr.alloc (.cells #[.float .f64 x,.float .f64 y,.float .f64 z,.float .f64 m,.int .u8 d,.bool true] 115)).alloc (.cells #[.float .f64 x,.float .f64 y,.float .f64 z,.float .f64 m,.int .u8 d,.bool true] 115))):=⟨fun h=>absurd h (by omega),fun _=>rfl,(hrel.out.2.2.alloc _).alloc _⟩
   go_roundw
   case rel=>exact⟨i+1,d,by omega,by go_num,rfl,HR.out⟩
   case measure=>simp[intOf];omega
  ·have hin:i=n:=by omega
   subst hin
   obtain rfl:d=c3:=(hrel.out.2.1 hn).symm
   have FR1:=zH hrel.out.2.2
   clear hrel
   have C233:Hid (Calls Tryz.prog 233 #[.slice (some ⟨g,o,none⟩) i c,.int .u8 d] wr (RwPost d xs wr)):=pts233 hd (HH.out.kept (PtE.kp d) (fun b _ hl=>(F0.out.trans FR1.out).block b hl (fun h=>h))) HX.out hn hn4
   have HB:=zH ((FR1.out.block w.heap.size (zG B0.out).1 (fun h=>h)).trans B0.out)
   go_wp2_with (go_at_call 233;refine C233.out.mono ?_;rintro e w9 ⟨g9,n9,rfl,h9⟩;have HB9:=zH ((h9.out.1.block w.heap.size (zG HB.out).1 (fun h=>h)).trans HB.out);have q0:w9.cell? ⟨w.heap.size,0,none⟩=some (.slice none 0 0):=(by rw[zC HB9.out];rfl);have q1:w9.cell? ⟨w.heap.size,1,none⟩=some (.int .u8 0):=(by rw[zC HB9.out];rfl);have qf:∀j,w9.frozen? ⟨w.heap.size,j,none⟩=false:=fun j=>zF HB9.out j)
   refine bodyPost_ret (v:=.agg #[.slice (some ⟨g9,0,none⟩) n9 n9,.int .u8 d]) (by simp[results,Tryz.f165,go_sem,q0,q1]) rfl ?_
   have fS:Fr (Eq w.heap.size) w9 ((w9.setCell ⟨w.heap.size,0,none⟩ (.slice (some ⟨g9,0,none⟩) n9 n9)).setCell ⟨w.heap.size,1,none⟩ (.int .u8 d)):=((Fr.refl _ w9).setR _).setR _
   have hs1:=FR1.out.size
   obtain⟨a1,a2,a3⟩:=h9.out
   refine⟨g9,n9,n9,rfl,((F0.out.trans FR1.out).trans a1).transNew fS (fun b e=>.inl (by omega)),Nat.le_refl _,g9,0,n9,n9,rfl,a2,by rw[a2,←HX.out];exact hn,by rw[a2,←HX.out];exact hn4,?_⟩
   exact ((a3.kept (PtE.kp d) (w':=_) (fun b hb hl=>fS.block b hl (by omega))).mono (PtE.kp d) (by decide) (fun b hb _=>by omega))
open Go.RowKit
theorem make124(n:Nat)(h:n≤1000000000):∀w,(Instr.makeSlice 124 (.int .i64 n) (.int .i64 n)).run Tryz.prog w=.ok (.slice (some ⟨w.heap.size,0,none⟩) n n) (w.alloc (.cells (madeCells #[.int .u8 0,.slice none 0 0] (n*2)) 121)):=by
 obtain⟨j0,hj0,jz0,jz1,jz2⟩:=info_parts info121
 intro w
 have:=run_make (P:=Tryz.prog) w 124 121 j0 _ Tryz.underlying124 hj0 jz0 .i64 .i64 n n (by omega) (Int.le_refl _) (by rw[jz2];omega) (by omega)
 rw[this,jz1,Int.toNat_natCast]
 rfl
theorem flat_two{css:List (List Value)}(h:∀c∈css,c.length=2):css.flatten.length=css.length*2:=by
 induction css with
 | nil=>rfl
 | cons c css ih=>rw[List.flatten_cons,List.length_append,ih (fun c hc=>h c (by simp[hc])),h c (by simp),List.length_cons,Nat.succ_mul];omega
theorem two_at{w:World}{g o:Nat}{css:List (List Value)}(h2:∀c∈css,c.length=2)(hfc:∀j u,css.flatten[j]?=some u→w.cell? ⟨g,o+j,none⟩=some u){i:Nat}(hi:i < css.length){a b:Value}(hc:css[i]=[a,b]):w.cell? ⟨g,o+i*2,none⟩=some a∧w.cell? ⟨g,o+i*2+1,none⟩=some b:=by
 have h0:=hfc (i*2+0) a (by rw[flatten_at h2 i css[i] (by simp[hi]) 0 (by omega),hc];rfl)
 have h1:=hfc (i*2+1) b (by rw[flatten_at h2 i css[i] (by simp[hi]) 1 (by omega),hc];rfl)
 exact⟨h0,h1⟩
theorem poly162{d:Nat}{P:Nat→Prop}{w:World}(hP:∀b,w.heap.size≤b→P b){g o n c:Nat}{xs:List (List Nat)}(h:RowsAt (LnE d) P 2 w (.slice (some ⟨g,o,none⟩) n c) xs)(hn:0 < n)(hn4:n≤4096):
  Calls Tryz.prog 162 #[.agg #[.slice (some ⟨g,o,none⟩) n c,.int .u8 d],.int .u8 d] w (NwPost (LnE d) 2 d P xs w):=by
 obtain⟨css,hnx,hnc,hcl,hfl,hfc,hone,hE⟩:=ln_cells h
 have hmk:=make124 n (by omega)
 have hg:g < w.heap.size:=World.block_lt_of_cell? w _ (ln_at h (i:=0) (by omega)).choose_spec.choose_spec.choose_spec.choose_spec.2.1
 obtain⟨w0,hw0⟩:∃w0,w0=((w.alloc (.cells #[.slice (some ⟨g,o,none⟩) n c,.int .u8 d] 126)).alloc (.cells #[.slice none 0 0,.int .u8 0] 126)).alloc (.cells (madeCells #[.int .u8 0,.slice none 0 0] (n*2)) 121):=⟨_,rfl⟩
 have s1:(w.alloc (.cells #[.slice (some ⟨g,o,none⟩) n c,.int .u8 d] 126)).heap.size=w.heap.size+1:=by show (w.heap.push _).size=_;rw[Array.size_push]
 have s2:((w.alloc (.cells #[.slice (some ⟨g,o,none⟩) n c,.int .u8 d] 126)).alloc (.cells #[.slice none 0 0,.int .u8 0] 126)).heap.size=w.heap.size+2:=by show ((w.alloc _).heap.push _).size=_;rw[Array.size_push,s1]
 have f0:ZF w w0:=by rw[hw0];exact (((Fr.refl _ w).alloc _).alloc _).alloc _
 have b0:w0.heap[w.heap.size]?=some (.cells #[.slice (some ⟨g,o,none⟩) n c,.int .u8 d] 126 (0,0)):=by rw[hw0];exact (Below.heap_alloc _ _ _ (by omega)).trans ((Below.heap_alloc _ _ _ (by omega)).trans (zN w _))
 have b1:w0.heap[w.heap.size+1]?=some (.cells #[.slice none 0 0,.int .u8 0] 126 (0,0)):=by rw[hw0];refine (Below.heap_alloc _ _ _ (by omega)).trans ?_;rw[←s1];exact zN _ _
 have g0:FillAt (w.heap.size+2) 121 [] (n*2) w0:=by rw[hw0,←s2];exact FillAt.start _ _ _ _
 have HH:=zH h
 have HE:=zH hE
 have HFL:=zH hfl
 have HFC:=zH hfc
 have H2:Hid (∀c∈css,c.length=2):=fun c hc=>by
  obtain⟨q,hq⟩:=List.mem_iff_getElem?.1 hc
  have hq2:q < xs.length:=by have:=(zL hq).1;rw[hcl] at this;exact this
  exact (hE q c xs[q] hq (by simp[hq2])).1
 have HCL:=zH hcl
 have HX:=zH hnx
 have HW0:=zH hw0
 have F0:=zH f0
 have B:=zH (⟨b0,b1⟩:_∧_)
 have G0:=zH g0
 have C232:=zH ac232
 have hnI:(n:Int)≤4096:=by omega
 clear h hE hfl hcl hfc hone hnx hw0 f0 b0 b1 g0 s1 s2
 go_enter Tryz.func162,Tryz.ntmps162
 go_upto_region 2 with fail
 rw[←HW0.out]
 clear hmk
 have a0:w0.cell? ⟨w.heap.size,0,none⟩=some (.slice (some ⟨g,o,none⟩) n c):=by rw[zC B.out.1];rfl
 go_upto_region 3 with fail
 clear a0
 go_loopw [14] (fun iv wr=>∃(i:Nat),i≤n∧iv=.int .i64 (i:Int)∧Hid (Fr (Eq (w.heap.size+2)) w0 wr∧FillAt (w.heap.size+2) 121 (css.take i).flatten ((n - i)*2) wr)) (fun iv _=>n - (intOf iv).toNat)
 case atStart=>exact⟨0,Nat.zero_le _,rfl,Fr.refl _ _,G0.out⟩
 case round =>
  obtain⟨i,hi,rfl,hrel⟩:=hrel
  by_cases hlt:i < n
  ·have hkc:i < css.length:=by rw[HCL.out,←HX.out];exact hlt
   have hkx:i < xs.length:=by rw[←HX.out];exact hlt
   obtain⟨_,g2,o2,n2,c2,hck,hl⟩:=HE.out i css[i] xs[i] (by simp[hkc]) (by simp[hkx])
   obtain⟨q0,q1⟩:=two_at H2.out HFC.out hkc hck
   have FF:Hid (Fr (Eq (w.heap.size+2)) w wr):=(F0.out.weak (fun _ h=>h.elim)).trans hrel.out.1
   have q0':=FF.out.cell q0 (by show ¬w.heap.size+2=g;omega)
   have q1':=FF.out.cell q1 (by show ¬w.heap.size+2=g;omega)
   have hb:=(hrel.out.1.block w.heap.size (zG B.out.1).1 (by omega)).trans B.out.1
   have a0:wr.cell? ⟨w.heap.size,0,none⟩=some (.slice (some ⟨g,o,none⟩) n c):=by rw[zC hb];rfl
   have e2:(n - i)*2=(n - (i+1))*2+1+1:=by omega
   have HFI:=zH hrel.out.2
   have hfll:((css.take i).flatten).length=i*2:=by
    rw[flat_two (fun c hc=>H2.out c (List.mem_of_mem_take hc)),List.length_take,Nat.min_eq_left (by omega)]
   have hG:=HFI.out.lt
   have hal:∀A B C D,FillAt (w.heap.size+2) 121 (css.take i).flatten ((n - i)*2) ((((wr.alloc A).alloc B).alloc C).alloc D):=fun A B C D=>HFI.out.keep (((((Fr.refl (fun _=>False) wr).alloc A).alloc B).alloc C).alloc D) (fun h=>h)
   obtain⟨v0,hv0⟩:∃v0,∀A B C D,((((wr.alloc A).alloc B).alloc C).alloc D).cell? ⟨w.heap.size+2,i*2,none⟩=some v0:=by
    obtain⟨v,hv⟩:=HFI.out.cell (i*2) (by omega)
    exact⟨v,fun A B C D=>(((((Fr.refl (fun _=>False) wr).alloc A).alloc B).alloc C).alloc D).cell hv (fun h=>h)⟩
   obtain⟨v1,hv1⟩:∃v1,∀A B C D,((((wr.alloc A).alloc B).alloc C).alloc D).cell? ⟨w.heap.size+2,i*2+1,none⟩=some v1:=by
    obtain⟨v,hv⟩:=HFI.out.cell (i*2+1) (by omega)
    exact⟨v,fun A B C D=>(((((Fr.refl (fun _=>False) wr).alloc A).alloc B).alloc C).alloc D).cell hv (fun h=>h)⟩
   have hvf:∀A B C D k,((((wr.alloc A).alloc B).alloc C).alloc D).frozen? ⟨w.heap.size+2,k,none⟩=false:=fun A B C D k=>(hal A B C D).fz k
   have HR:∀A B C D,Hid (Fr (Eq (w.heap.size+2)) w0 ((((((wr.alloc A).alloc B).alloc C).alloc D).setCell ⟨w.heap.size+2,i*2,none⟩ (.int .u8 d)).setCell ⟨w.heap.size+2,i*2+1,none⟩ (.slice (some ⟨g2,o2,none⟩) n2 c2))∧FillAt (w.heap.size+2) 121 (css.take (i+1)).flatten ((n - (i+1))*2) ((((((wr.alloc A).alloc B).alloc C).alloc D).setCell ⟨w.heap.size+2,i*2,none⟩ (.int .u8 d)).setCell ⟨w.heap.size+2,i*2+1,none⟩ (.slice (some ⟨g2,o2,none⟩) n2 c2))):=fun A B C D=>by
    refine⟨(((((hrel.out.1.alloc A).alloc B).alloc C).alloc D).setR _).setR _,?_⟩
    have hf:=hal A B C D
    rw[e2] at hf
    have x0:=hf.one (.int .u8 d)
    rw[hfll] at x0
    have x1:=x0.one (.slice (some ⟨g2,o2,none⟩) n2 c2)
    rw[List.length_append,hfll] at x1
    rw[List.take_succ_eq_append_getElem hkc,List.flatten_append,hck]
    have e:(css.take i).flatten++[[Value.int .u8 d,.slice (some ⟨g2,o2,none⟩) n2 c2]].flatten=(css.take i).flatten++[.int .u8 d]++[.slice (some ⟨g2,o2,none⟩) n2 c2]:=by simp
    rw[e]
    exact x1
   have HR2:=zH HR
   clear q0 q1 hl hck hb e2 hfll hal HR hrel
   go_wp2_with (go_at_call 232;refine (C232.out _ _ _ _ _ _).mono ?_;rintro e w1 ⟨rfl,rfl⟩)
   go_roundw
   case rel=>exact⟨i+1,by omega,by go_num,(HR2.out _ _ _ _).out⟩
   case measure=>simp[intOf];omega
  ·have hin:i=n:=by omega
   subst hin
   have hb:=(hrel.out.1.block (w.heap.size+1) (zG B.out.2).1 (by omega)).trans B.out.2
   have q0:wr.cell? ⟨w.heap.size+1,0,none⟩=some (.slice none 0 0):=by rw[zC hb];rfl
   have q1:wr.cell? ⟨w.heap.size+1,1,none⟩=some (.int .u8 0):=by rw[zC hb];rfl
   have qf:∀j,wr.frozen? ⟨w.heap.size+1,j,none⟩=false:=fun j=>zF hb j
   have FF:Hid (ZF w wr):=F0.out.transNew hrel.out.1 (fun b e=>.inl (by omega))
   have HFI:=zH hrel.out.2
   clear hb hrel
   go_wp2_with fail
   refine bodyPost_ret (v:=.agg #[.slice (some ⟨w.heap.size+2,0,none⟩) i i,.int .u8 d]) (by simp[results,Tryz.f162,go_sem,q0,q1]) rfl ?_
   have fS:Fr (Eq (w.heap.size+1)) wr ((wr.setCell ⟨w.heap.size+1,0,none⟩ (.slice (some ⟨w.heap.size+2,0,none⟩) i i)).setCell ⟨w.heap.size+1,1,none⟩ (.int .u8 d)):=((Fr.refl _ wr).setR _).setR _
   have hfi:=HFI.out
   rw[Nat.sub_self,Nat.zero_mul,List.take_of_length_le (by rw[HCL.out,HX.out];exact Nat.le_refl _)] at hfi
   have FT:ZF w ((wr.setCell ⟨w.heap.size+1,0,none⟩ (.slice (some ⟨w.heap.size+2,0,none⟩) i i)).setCell ⟨w.heap.size+1,1,none⟩ (.int .u8 d)):=FF.out.transNew fS (fun b e=>.inl (by omega))
   refine⟨w.heap.size+2,i,i,rfl,FT,Nat.le_refl _,w.heap.size+2,0,i,i,rfl,HX.out,hn,hn4,css,⟨by rw[HFL.out,HX.out],some ⟨w.heap.size+2,0,none⟩,i,by rw[HX.out],by rw[←HX.out];exact Nat.le_refl _,(fun e=>by cases e),fun _=>⟨w.heap.size+2,0,rfl,hP _ (by omega),fun j u hj=>fS.cell (hfi.done j u hj) (by show ¬w.heap.size+1=w.heap.size+2;omega)⟩⟩,HCL.out,fun q c x hc hx=>⟨(HE.out q c x hc hx).1,(LnE.kp d).kept (w:=w) (fun b _ hl=>FT.block b hl (fun h=>h)) (HE.out q c x hc hx).2⟩⟩
theorem flat_inv{css:List (List Value)}(h2:∀c∈css,c.length=2){j:Nat}{u:Value}(h:css.flatten[j]?=some u):∃c,css[j / 2]?=some c∧c[j % 2]?=some u:=by
 have hl:=flat_two h2
 have hj:j < css.flatten.length:=(zL h).1
 have hq:j / 2 < css.length:=by omega
 refine⟨css[j / 2],by simp[hq],?_⟩
 have:=flatten_at h2 (j / 2) css[j / 2] (by simp[hq]) (j % 2) (by omega)
 rw[←this,show j / 2*2+j % 2=j by omega]
 exact h
theorem set_two{css:List (List Value)}(h2:∀c∈css,c.length=2){cur:Array Value}(h:∀(j:Nat) (u:Value),css.flatten[j]?=some u→cur[j]?=some u){k:Nat}(hk:k < css.length)(a b:Value):
  (∀c∈css.set k [a,b],c.length=2)∧∀(j:Nat) (u:Value),(css.set k [a,b]).flatten[j]?=some u→((cur.setIfInBounds (k*2) a).setIfInBounds (k*2+1) b)[j]?=some u:=by
 have h2':∀c∈css.set k [a,b],c.length=2:=fun c hc=>by
  rcases List.mem_or_eq_of_mem_set hc with hc|rfl
  ·exact h2 c hc
  ·rfl
 have hk1:k*2+1 < cur.size:=by
  have hl:=flat_two h2
  have:=h (k*2+1) (css.flatten[k*2+1]'(by omega)) (by simp)
  exact (zG this).1
 refine⟨h2',fun j u hj=>?_⟩
 obtain⟨c,hc,hu⟩:=flat_inv h2' hj
 rw[Array.getElem?_setIfInBounds,Array.getElem?_setIfInBounds]
 by_cases e:j / 2=k
 ·rw[e,List.getElem?_set_self (by simpa using hk)] at hc
  injection hc with hc
  subst hc
  have hm:j % 2=0∨j % 2=1:=by omega
  rcases hm with hm|hm
  ·rw[hm] at hu
   rw[if_neg (by omega),if_pos (by omega),if_pos (by omega)]
   simpa using hu
  ·rw[hm] at hu
   rw[if_pos (by omega),if_pos (by simp;omega)]
   simpa using hu
 ·rw[List.getElem?_set_ne (fun h=>e h.symm)] at hc
  rw[if_neg (by omega),if_neg (by omega)]
  refine h j u ?_
  have hq:=(zL hc).1
  rw[show j=j / 2*2+j % 2 by omega,flatten_at h2 (j / 2) c hc (j % 2) (by omega)]
  exact hu
theorem rw_cells{d:Nat}{P:Nat→Prop}{w:World}{g o n c:Nat}{xs:List (List (List Nat))}(h:RowsAt (RwE (LnE d) 2 d) P 2 w (.slice (some ⟨g,o,none⟩) n c) xs):
  ∃css:List (List Value),n=xs.length∧n≤c∧css.length=xs.length∧css.flatten.length=n*2∧(∀j u,css.flatten[j]?=some u→w.cell? ⟨g,o+j,none⟩=some u)∧(∀u∈css.flatten,u.oneCell'=true)∧∀(i:Nat) (c:List Value) (x:List (List Nat)),css[i]?=some c→xs[i]?=some x→c.length=2∧RwE (LnE d) 2 d P w c x:=by
 obtain⟨css,⟨h1,a,cap,e,h2,h3,h4⟩,hl,hE⟩:=h
 injection e with e1 e2 e3
 refine⟨css,e2,by omega,hl,by rw[h1,e2],fun j u hu=>?_,fun u hu=>?_,hE⟩
 ·have hn:0 < xs.length:=by
   rcases Nat.eq_zero_or_pos xs.length with h0|h0
   ·rw[h0] at h1
    have:css.flatten=[]:=List.eq_nil_of_length_eq_zero (by omega)
    rw[this] at hu
    simp at hu
   ·exact h0
  obtain⟨b,o',rfl,_,hc⟩:=h4 hn
  injection e1 with e1
  injection e1 with e1 e5 _
  rw[e1,e5]
  exact hc j u hu
 ·obtain⟨cs,hcs,hu⟩:=List.mem_flatten.1 hu
  obtain⟨i,hi⟩:=List.mem_iff_getElem?.1 hcs
  have hix:i < xs.length:=by have:=(zL hi).1;omega
  obtain⟨_,g2,o2,n2,c2,rfl,_⟩:=hE i cs xs[i] hi (by simp[hix])
  simp at hu
  rcases hu with rfl|rfl<;>rfl
theorem info126:(Tryz.prog.info? 126).map (fun i=>(i.zero,i.size,i.bytes))=some (some (.agg #[.slice none 0 0,.int .u8 0]),2,32):=by kernel_rfl
def FpAt (d:Nat) (P:Nat→Prop) (g6:Nat) (xs:List (List (List Nat))) (wA wr:World):Prop :=
 Fr (Eq g6) wA wr∧∃(css:List (List Value)) (cur:Array Value),css.length=xs.length∧(∀(i:Nat) (c:List Value) (x:List (List Nat)),css[i]?=some c→xs[i]?=some x→c.length=2∧RwE (LnE d) 2 d P wr c x)∧wr.heap[g6]?=some (.cells cur 126 (0,0))∧∀(j:Nat) (u:Value),css.flatten[j]?=some u→cur[j]?=some u
theorem FpAt.two{d:Nat}{P:Nat→Prop}{xs:List (List (List Nat))}{w:World}{css:List (List Value)}(hl:css.length=xs.length)(hE:∀(i:Nat) (c:List Value) (x:List (List Nat)),css[i]?=some c→xs[i]?=some x→c.length=2∧RwE (LnE d) 2 d P w c x):∀c∈css,c.length=2:=fun c hc=>by
 obtain⟨q,hq⟩:=List.mem_iff_getElem?.1 hc
 have hq2:q < xs.length:=by have:=(zL hq).1;omega
 exact (hE q c xs[q] hq (by simp[hq2])).1
theorem FpAt.next{d:Nat}{P:Nat→Prop}{g6:Nat}{xs:List (List (List Nat))}{wA wr w1:World}(h:FpAt d P g6 xs wA wr)(hP6:∀b,P b→b≠g6)(f1:ZF wr w1){k:Nat}(hk:k < xs.length){a b:Value}(hx:RwE (LnE d) 2 d P w1 [a,b] xs[k]):
  FpAt d P g6 xs wA ((w1.setCell ⟨g6,k*2,none⟩ a).setCell ⟨g6,k*2+1,none⟩ b):=by
 obtain⟨f,css,cur,h1,h2,h3,h4⟩:=h
 have hE:=RwE.kp (LnE.kp d) (s:=2) (by decide) d
 have hb1:=(f1.block g6 (zG h3).1 (fun h=>h)).trans h3
 have fS:Fr (Eq g6) w1 ((w1.setCell ⟨g6,k*2,none⟩ a).setCell ⟨g6,k*2+1,none⟩ b):=((Fr.refl _ w1).setR _).setR _
 have s1:=set_two (FpAt.two h1 h2) h4 (show k < css.length by omega) a b
 refine⟨(f.trans (f1.weak (fun _ h=>h.elim))).trans fS,css.set k [a,b],_,by simpa using h1,fun i c x hc hx'=>?_,Lib.heap_setCell_same (i:=k*2+1) (Lib.heap_setCell_same (i:=k*2) hb1 a) b,s1.2⟩
 have kp:∀{c:List Value}{x:List (List Nat)},RwE (LnE d) 2 d P w1 c x→RwE (LnE d) 2 d P ((w1.setCell ⟨g6,k*2,none⟩ a).setCell ⟨g6,k*2+1,none⟩ b) c x:=fun h=>hE.kept (fun b hb hl=>fS.block b hl (fun e=>hP6 b hb e.symm)) h
 by_cases e:i=k
 ·subst e
  rw[List.getElem?_set_self (by omega)] at hc
  injection hc with hc
  subst hc
  have:xs[i]?=some xs[i]:=by simp[hk]
  rw[this] at hx'
  injection hx' with hx'
  subst hx'
  exact⟨rfl,kp hx⟩
 ·rw[List.getElem?_set_ne (fun h=>e h.symm)] at hc
  exact⟨(h2 i c x hc hx').1,kp (hE.kept (fun b _ hl=>f1.block b hl (fun h=>h)) (h2 i c x hc hx').2)⟩
theorem new169{d:Nat}(hd:d≤3){P:Nat→Prop}{w:World}(hP:∀b,w.heap.size≤b→P b){g o n c:Nat}{xs:List (List (List Nat))}(h:RowsAt (RwE (LnE d) 2 d) P 2 w (.slice (some ⟨g,o,none⟩) n c) xs)(hn:0 < n)(hn4:n≤4096):
  Calls Tryz.prog 169 #[.slice (some ⟨g,o,none⟩) n c] w (NwPost (RwE (LnE d) 2 d) 2 d P xs w):=by
 have hKE:=RwE.kp (LnE.kp d) (s:=2) (by decide) d
 obtain⟨css,hnx,hnc,hcl,hfl,hfc,hone,hE⟩:=rw_cells h
 obtain⟨i0,hi0,hz0,hz1,hz2⟩:=info_parts info126
 have h2:∀c∈css,c.length=2:=FpAt.two hcl hE
 have hg:g < w.heap.size:=by
  have hc0:0 < css.flatten.length:=by omega
  exact World.block_lt_of_cell? w _ (hfc 0 css.flatten[0] (by simp))
 have hb3:=and_u8 ⟨d,by omega⟩
 obtain⟨hb3a,hb3b⟩:=hb3
 simp only at hb3a hb3b
 have HBA:=zH hb3a
 have HBB:=zH hb3b
 have HE:=zH hE
 have HFC:=zH hfc
 have HFL:=zH hfl
 have HCL:=zH hcl
 have H2:=zH h2
 have HONE:=zH hone
 have HX:=zH hnx
 have HKE:=zH hKE
 have C137:=zH ac137
 have hn0:(0:Int) < (n:Int):=by omega
 obtain⟨w0,hw0⟩:∃w0,w0=w.alloc (.cells #[.slice none 0 0,.int .u8 0] 139):=⟨_,rfl⟩
 have f0:ZF w w0:=by rw[hw0];exact (Fr.refl _ w).alloc _
 have s0:w0.heap.size=w.heap.size+1:=by rw[hw0];show (w.heap.push _).size=_;rw[Array.size_push]
 have b0:w0.heap[w.heap.size]?=some (.cells #[.slice none 0 0,.int .u8 0] 139 (0,0)):=by rw[hw0];exact zN w _
 have F0:=zH f0
 have B0:=zH b0
 have HW0:=zH hw0
 clear h hE hfc hfl hcl hone hnx f0 b0 hw0 hb3a hb3b h2 hKE
 go_enter Tryz.func169,Tryz.ntmps169
 go_upto_region 4 with fail
 rw[←HW0.out]
 go_upto_region 5 with fail
 go_loopw [3,12] (fun cv iv wr=>∃(i c3:Nat),i≤n∧iv=.int .i64 (i:Int)∧cv=.int .u8 (c3:Int)∧Hid ((i=0→c3=3)∧(0 < i→c3=d)∧ZF w0 wr)) (fun _ iv _=>n - (intOf iv).toNat)
 case atStart=>exact⟨0,3,Nat.zero_le _,rfl,rfl,fun _=>rfl,fun h=>absurd h (by decide),Fr.refl _ _⟩
 case round =>
  obtain⟨i,c3,hi,rfl,rfl,hrel⟩:=hrel
  by_cases hlt:i < n
  ·have hkc:i < css.length:=by rw[HCL.out,←HX.out];exact hlt
   have hkx:i < xs.length:=by rw[←HX.out];exact hlt
   obtain⟨_,g2,o2,n2,c2,hck,hl⟩:=HE.out i css[i] xs[i] (by simp[hkc]) (by simp[hkx])
   obtain⟨q0,q1⟩:=two_at H2.out HFC.out hkc hck
   have q0':=(F0.out.trans hrel.out.2.2).cell q0 (fun h=>h)
   have q1':=(F0.out.trans hrel.out.2.2).cell q1 (fun h=>h)
   have hgr:g < wr.heap.size:=World.block_lt_of_cell? wr _ q0'
   have hb:bits .and .u8 (c3:Int) (d:Int)=(d:Int):=by
    rcases Nat.eq_zero_or_pos i with h0|h0
    ·rw[hrel.out.1 h0];exact HBA.out
    ·rw[hrel.out.2.1 h0];exact HBB.out
   clear q0 q1 hl hck
   go_wp2_with (go_at_call 137;refine (C137.out _ _ _ _ _ _).mono ?_;rintro e w1 ⟨rfl,rfl⟩)
   have HR:Hid ((i+1=0→d=3)∧(0 < i+1→d=d)∧ZF w0 ((wr.alloc (.cells #[.slice (some ⟨g2,o2,none⟩) n2 c2,.int .u8 d] 126)).alloc (.cells #[.slice (some ⟨g2,o2,none⟩) n2 c2,.int .u8 d] 126))):=⟨fun h=>absurd h (by omega),fun _=>rfl,(hrel.out.2.2.alloc _).alloc _⟩
   go_roundw
   case rel=>exact⟨i+1,d,by omega,by go_num,rfl,HR.out⟩
   case measure=>simp[intOf];omega
  ·have hin:i=n:=by omega
   subst hin
   obtain rfl:d=c3:=(hrel.out.2.1 hn).symm
   obtain⟨wo,hwo⟩:∃wo,wo=wr:=⟨_,rfl⟩
   subst hwo
   have FR1:=zH hrel.out.2.2
   clear hrel
   have HN:Hid (∀j u,css.flatten[j]?=some u→wo.cell? ((⟨g,o,none⟩:Addr).add j)=some u):=fun j u hj=>by
    have e:(⟨g,o,none⟩:Addr).add j=⟨g,o+j,none⟩:=by cases j<;>simp[Addr.add]
    rw[e]
    exact (F0.out.trans FR1.out).cell (HFC.out j u hj) (fun h=>h)
   have K3:Hid (0+i≤maxLen):=by show _≤_;unfold maxLen;omega
   have K4:Hid ((0+i)*32≤140737488355328):=by show _≤_;omega
   go_upto_region 9 with fail
   go_upto_region 10 with (at_builtin;refine wpList_append_own_at _ rfl _ _ 137 rfl wo.heap.size 126 i0 (.agg #[.slice none 0 0,.int .u8 0]) 2 32 Tryz.underlying137 hi0 hz0 hz1 hz2 rfl (by decide) _ 0 [] rfl (World.ownsRow_nil _ _ _ _) ⟨g,o,none⟩ i c css.flatten rfl HFL.out HN.out HONE.out K3.out K4.out (Nat.le_refl _) ?_;intro v' wA hown hgrow _ hat;simp only[Nat.zero_add,List.nil_append] at hown;obtain⟨g6,cap6,rfl,_,_⟩:=own_capE hown hn;have OWN:=zH hown;have FA:Hid (ZF wo wA):=(Fr.refl _ _).grown hgrow (fun k hk=>by cases hk);clear hown hgrow hat)
   obtain⟨cur,hcur,hg6,hcap6,hfl6,hcc⟩:=own_cells OWN.out
   have FT:=zH ((F0.out.trans FR1.out).trans FA.out)
   have hs1:=FR1.out.size
   have P0:Hid (FpAt d (fun b=>P b∧b≠g6∧b≠w.heap.size) g6 xs wA wA):=by
    refine⟨Fr.refl _ _,css,cur,HCL.out,fun q c x hc hx=>⟨(HE.out q c x hc hx).1,?_⟩,hcur,hcc⟩
    have e1:=(HE.out q c x hc hx).2
    have e2:=HKE.out.mono (Q:=fun b=>P b∧b < w.heap.size) (fun b hb hl=>⟨hb,hl⟩) e1
    exact HKE.out.mono (fun b hb _=>⟨hb.1,by have:=F0.out.size;have:=FR1.out.size;omega,by omega⟩) (HKE.out.kept (w':=wA) (fun b hb hl=>FT.out.block b hl (fun h=>h)) e2)
   have hgA:g6 < wA.heap.size:=(zG hcur).1
   clear hcur hcc hfl6
   have hng:(0:Int) < (i:Int):=hn0
   go_upto_region 11 with fail
   go_loopw [25] (fun iv wr=>∃(k:Nat),k≤i∧iv=.int .i64 (k:Int)∧Hid (FpAt d (fun b=>P b∧b≠g6∧b≠w.heap.size) g6 xs wA wr)) (fun iv _=>i - (intOf iv).toNat)
   case atStart=>exact⟨0,Nat.zero_le _,rfl,P0.out⟩
   case round =>
    obtain⟨k,hk,rfl,hrel⟩:=hrel
    by_cases hlt:k < i
    ·obtain⟨f,cs2,cur2,h1,h2,h3,h4⟩:=hrel.out
     have hkx:k < xs.length:=by rw[←HX.out];exact hlt
     have hkc:k < cs2.length:=by rw[h1];exact hkx
     obtain⟨_,g2,o2,n2,c2,hck,hn2,hn20,hn24,hrow⟩:=h2 k cs2[k] xs[k] (by simp[hkc]) (by simp[hkx])
     have h22:=FpAt.two h1 h2
     have v0:cur2[k*2]?=some (.slice (some ⟨g2,o2,none⟩) n2 c2):=h4 (k*2+0) _ (by rw[flatten_at h22 k cs2[k] (by simp[hkc]) 0 (by omega),hck];rfl)
     have v1:cur2[k*2+1]?=some (.int .u8 d):=h4 (k*2+1) _ (by rw[flatten_at h22 k cs2[k] (by simp[hkc]) 1 (by omega),hck];rfl)
     have q0:wr.cell? ⟨g6,k*2,none⟩=some (.slice (some ⟨g2,o2,none⟩) n2 c2):=by rw[zC h3];exact v0
     have q1:wr.cell? ⟨g6,k*2+1,none⟩=some (.int .u8 d):=by rw[zC h3];exact v1
     have HV:=zH (⟨v0,v1,h3⟩:_∧_∧_)
     have C162:Hid (Calls Tryz.prog 162 #[.agg #[.slice (some ⟨g2,o2,none⟩) n2 c2,.int .u8 d],.int .u8 d] wr (NwPost (LnE d) 2 d (fun b=>P b∧b≠g6∧b≠w.heap.size) xs[k] wr)):=poly162 (fun b hb=>⟨hP b (by have:=f.size;have:=FT.out.size;omega),by have:=f.size;omega,by have:=f.size;have:=FA.out.size;omega⟩) hrow hn20 hn24
     clear f h1 h2 h3 h4 hck hn2 hn20 hn24 hrow h22 v0 v1
     go_wp2_with (go_at_call 162;refine C162.out.mono ?_;rintro e w1 ⟨g9,n9,c9,rfl,h9⟩;have hb9:=(h9.out.1.block g6 (zG HV.out.2.2).1 (fun h=>h)).trans HV.out.2.2;have p0:w1.cell? ⟨g6,k*2,none⟩=some (.slice (some ⟨g2,o2,none⟩) n2 c2):=(by rw[zC hb9];exact HV.out.1);have p1:w1.cell? ⟨g6,k*2+1,none⟩=some (.int .u8 d):=(by rw[zC hb9];exact HV.out.2.1);have pf:∀j,w1.frozen? ⟨g6,j,none⟩=false:=fun j=>zF hb9 j;clear hb9)
     have HR:Hid (FpAt d (fun b=>P b∧b≠g6∧b≠w.heap.size) g6 xs wA ((w1.setCell ⟨g6,k*2,none⟩ (.slice (some ⟨g9,0,none⟩) n9 c9)).setCell ⟨g6,k*2+1,none⟩ (.int .u8 d))):=hrel.out.next (fun b hb=>hb.2.1) h9.out.1 hkx h9.out.2.2
     go_roundw
     case rel=>exact⟨k+1,by omega,by go_num,HR.out⟩
     case measure=>simp[intOf];omega
    ·have hin:k=i:=by omega
     subst hin
     obtain⟨f,cs2,cur2,h1,h2,h3,h4⟩:=hrel.out
     have hbr:=(f.block w.heap.size (by have:=FT.out.size;have:=FA.out.size;omega) (by omega)).trans ((FR1.out.trans FA.out).block w.heap.size (zG B0.out).1 (fun h=>h) |>.trans B0.out)
     have q0:wr.cell? ⟨w.heap.size,0,none⟩=some (.slice none 0 0):=by rw[zC hbr];rfl
     have q1:wr.cell? ⟨w.heap.size,1,none⟩=some (.int .u8 0):=by rw[zC hbr];rfl
     have qf:∀j,wr.frozen? ⟨w.heap.size,j,none⟩=false:=fun j=>zF hbr j
     have HREL:=hrel
     have HFF:=zH f
     have H22:=zH (FpAt.two h1 h2)
     have HALL:=zH (⟨h1,h2,h3,h4⟩:_∧_∧_∧_)
     clear f h1 h2 h3 h4 hbr hrel
     go_wp2_with fail
     refine bodyPost_ret (v:=.agg #[.slice (some ⟨g6,0,none⟩) k cap6,.int .u8 d]) (by simp[results,Tryz.f169,go_sem,q0,q1]) rfl ?_
     have fS:Fr (Eq w.heap.size) wr ((wr.setCell ⟨w.heap.size,0,none⟩ (.slice (some ⟨g6,0,none⟩) k cap6)).setCell ⟨w.heap.size,1,none⟩ (.int .u8 d)):=((Fr.refl _ wr).setR _).setR _
     have hg6w:¬w.heap.size=g6:=by omega
     obtain⟨h1,h2,h3,h4⟩:=HALL.out
     have FTT:=(FT.out.transNew HFF.out (fun b e=>.inl (by omega))).transNew fS (fun b e=>.inl (by omega))
     refine⟨g6,k,cap6,rfl,FTT,hcap6,g6,0,k,cap6,rfl,HX.out,hn,hn4,cs2,⟨by rw[flat_two H22.out,h1],some ⟨g6,0,none⟩,cap6,by rw[HX.out],by rw[←HX.out];exact hcap6,(fun e=>by cases e),fun _=>⟨g6,0,rfl,hP g6 (by omega),fun j u hj=>?_⟩⟩,h1,fun q c x hc hx=>⟨(h2 q c x hc hx).1,?_⟩⟩
     ·rw[Nat.zero_add]
      have h5:wr.cell? ⟨g6,j,none⟩=some u:=by rw[zC h3];exact h4 j u hj
      exact fS.cell h5 hg6w
     ·exact HKE.out.mono (fun b hb _=>hb.1) (HKE.out.kept (fun b hb hl=>fS.block b hl (fun e=>hb.2.2 e.symm)) (h2 q c x hc hx).2)
end Go.Proofs.YtnjjgbcmjnfijaaGreatDoor
