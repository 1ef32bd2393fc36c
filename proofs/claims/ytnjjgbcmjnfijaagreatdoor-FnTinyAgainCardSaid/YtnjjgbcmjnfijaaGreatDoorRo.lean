/- The package's things as plain data: polygons. No condition. -/
import Derived.Test.YtnjjgbcmjnfijaaGreatDoorRm
import Derived.Test.YtnjjgbcmjnfijaaGreatDoorR8
import Derived.Laws.CopyOwn
import Derived.Deep.RegionLaw
namespace Go.Proofs.YtnjjgbcmjnfijaaGreatDoor
set_option maxRecDepth 100000
set_option maxHeartbeats 8000000
open Go.RowKit
theorem TrPost.up{D:Nat}{k d:Int}{g:G}{w w0 w1:World}{na:Option Addr}{n nc:Nat}{ka:Option Addr}{m kc:Nat}(f:ZF w w0)(h:ZF w0 w1∧GAt D (fun b=>w0.heap.size≤b) w1 [.int .i64 k,.int .i64 d,.slice na n nc,.slice ka m kc] g){R:Nat→Prop}{w2:World}(hs:∀b,R b→w.heap.size≤b∧b < w0.heap.size)(f2:Fr R w1 w2):TrPost D k d g w (.returned (.agg #[.int .i64 k,.int .i64 d,.slice na n nc,.slice ka m kc])) w2 :=
 ⟨na,n,nc,ka,m,kc,rfl,(f.trans h.1).transNew f2 (fun b e=>.inl (hs b e).1),(GAt.kp D).mono (fun b hb _=>Nat.le_trans f.size hb) ((GAt.kp D).kept (fun b hb hl=>f2.block b hl (fun e=>by have:=(hs b e).2;omega)) h.2)⟩
theorem two_allocs(w:World)(A B:Obj):((w.alloc A).alloc B).heap[w.heap.size]?=some A∧((w.alloc A).alloc B).heap[w.heap.size+1]?=some B:=by
 have h:=zN (w.alloc A) B
 rw[sz1] at h
 exact⟨(Below.heap_alloc _ _ _ (by rw[sz1];omega)).trans (zN w A),h⟩
theorem plain57(d:Nat)(hd:d≤3)(g o n c:Nat)(xs:List Nat)(w:World)(hn:n=xs.length)(hl:n≤30000)(hm:n % wd d=0)(hc:∀j u,(xs.map flv)[j]?=some u→w.cell? ⟨g,o+j,none⟩=some u):Calls Tryz.prog 57 #[.agg #[.int .u8 d,.slice (some ⟨g,o,none⟩) n c]] w (TrPost 1 2 d (G.mk 2 d xs []) w):=by
 have C136:=zH ac136
 have C135:Hid (∀w1,ZF w w1→Calls Tryz.prog 135 #[.agg #[.int .u8 d,.slice (some ⟨g,o,none⟩) n c]] w1 (TrPost 1 2 d (G.mk 2 d xs []) w1)):=fun w1 f=>plain135 d hd g o n c xs w1 hn hl hm (fun j u hu=>f.cell (hc j u hu) (fun h=>h))
 clear hn hl hm hc
 go_enter Tryz.func57,Tryz.ntmps57
 go_upto_region 1 with fail
 have b:=two_allocs w (.cells #[.int .u8 d,.slice (some ⟨g,o,none⟩) n c] 121) (.cells #[.int .i64 0,.int .i64 0,.slice none 0 0,.slice none 0 0] 27)
 obtain⟨w0,hw0⟩:∃w0,w0=(w.alloc (.cells #[.int .u8 d,.slice (some ⟨g,o,none⟩) n c] 121)).alloc (.cells #[.int .i64 0,.int .i64 0,.slice none 0 0,.slice none 0 0] 27):=⟨_,rfl⟩
 rw[←hw0] at b ⊢
 have F0:Hid (ZF w w0):=by show Fr _ _ _;rw[hw0];exact ((Fr.refl _ w).alloc _).alloc _
 obtain⟨w1,hw1⟩:∃w1,w1=(w0.alloc (.cells #[.int .u8 d,.slice (some ⟨g,o,none⟩) n c] 121)).alloc (.cells #[.int .u8 d,.slice (some ⟨g,o,none⟩) n c] 119):=⟨_,rfl⟩
 have F1:Hid (ZF w0 w1):=by show Fr _ _ _;rw[hw1];exact ((Fr.refl _ w0).alloc _).alloc _
 have C:=zH (C135.out w1 (F0.out.trans F1.out))
 rw[hw1] at C
 have HW1:=zH hw1
 have BR:=zH b.2
 have q0:w0.cell? ⟨w.heap.size,0,none⟩=some (.int .u8 d):=by rw[zC b.1];rfl
 have q1:w0.cell? ⟨w.heap.size,1,none⟩=some (.slice (some ⟨g,o,none⟩) n c):=by rw[zC b.1];rfl
 clear b hw0 hw1 C135
 go_wp2_with (first|(go_at_call 136;refine (C136.out _ _ _ _ _ _).mono ?_;rintro e w' ⟨rfl,rfl⟩)|(go_at_call 135;refine C.out.mono ?_;rintro e w4 ⟨ra,rn,rc,sa,sn,sc,rfl,hp⟩;rw[←HW1.out] at hp;obtain⟨r0,r1,r2,r3,rf⟩:=g_cells (b:=w.heap.size+1) (((F1.out.trans hp.out.1).block _ (zG BR.out).1 (fun h=>h)).trans BR.out)))
 refine bodyPost_ret (v:=.agg #[.int .i64 2,.int .i64 d,.slice ra rn rc,.slice sa sn sc]) (by simp[results,Tryz.f57,go_sem,r0,r1,r2,r3]) rfl (TrPost.up (F0.out.trans F1.out) hp.out (fun b e=>?_) (fr4 w4 (w.heap.size+1) _ _ _ _))
 have:=(zG BR.out).1
 have:=F1.out.size
 omega
structure KcAt (w:World) (tB:TypeId) (BX:Array Value) (D:Nat) (k d:Int) (M i:Nat) (v:Value) (xs:List G) (wr:World):Prop where
 fr:ZF w wr
 box:wr.heap[w.heap.size]?=some (.cells BX tB (0,0))
 res:wr.heap[w.heap.size+1]?=some (.cells #[.int .i64 0,.int .i64 0,.slice none 0 0,.slice none 0 0] 27 (0,0))
 o:wr.heap[w.heap.size+3]?=some (.cells #[.int .i64 k,.int .i64 d,.slice none 0 0,v] 27 (0,0))
 own:OwnRows (GAt D) M 27 4 wr v xs
 len:xs.length=i
 ms:w.heap.size+4≤M∧M≤wr.heap.size
section
variable {w wr:World}{tB:TypeId}{BX:Array Value}{D:Nat}{k d:Int}{M i:Nat}{v:Value}{xs:List G}
theorem KcAt.sz(h:KcAt w tB BX D k d M i v xs wr):w.heap.size+4≤wr.heap.size:=(zG h.o).1
theorem KcAt.run(h:KcAt w tB BX D k d M i v xs wr){wy:World}(f:ZF wr wy):KcAt w tB BX D k d M i v xs wy :=
 have hs:=h.sz
 have old:∀b,b < wr.heap.size→wy.heap[b]?=wr.heap[b]?:=fun b h1=>f.block b h1 (fun h=>h)
 ⟨h.fr.trans f,(old _ (by omega)).trans h.box,(old _ (by omega)).trans h.res,(old _ hs).trans h.o,OwnRows.kept (GAt.kp D) (fun b _ hl=>old b hl) h.own,h.len,⟨h.ms.1,Nat.le_trans h.ms.2 f.size⟩⟩
theorem KcAt.next(h:KcAt w tB BX D k d M i v xs wr){w5:World}(f:ZF wr w5){c0 c1 c2 c3:Value}{x:G}(hx:GAt D (fun b=>wr.heap.size≤b) w5 [c0,c1,c2,c3] x):
  ∃cs,w5.ownsRow M 27 4 v i cs∧∀(o:Obj) (w7:World) (v':Value),w7.ownsRow M 27 4 v' (i+1) (cs++[c0,c1,c2,c3])→(w5.alloc o).grownBy w7 v.ownBlock→(v'.ownBlock=v.ownBlock∨v'.ownBlock=some (w5.alloc o).heap.size) →
   w7.heap[w.heap.size+3]?=some (.cells #[.int .i64 k,.int .i64 d,.slice none 0 0,v] 27 (0,0))∧(∀b,wr.heap.size≤b→b < w5.heap.size→w7.heap[b]?=w5.heap[b]?)∧(∀b,b < M→b≠w.heap.size+3→(w7.setCell ⟨w.heap.size+3,3,none⟩ v').heap[b]?=wr.heap[b]?)∧KcAt w tB BX D k d M (i+1) v' (xs++[x]) (w7.setCell ⟨w.heap.size+3,3,none⟩ v'):=by
 have hE:=GAt.kp D
 have hm:=h.ms
 have hsz:=f.size
 have old:∀b,b < wr.heap.size→w5.heap[b]?=wr.heap[b]?:=fun b h1=>f.block b h1 (fun h=>h)
 obtain⟨css,o1,o2,o3⟩:=h.own.kept hE (w':=w5) (fun b _ h2=>old b h2)
 rw[h.len] at o1
 refine⟨css.flatten,o1,fun o w7 v' p1 p2 p3=>?_⟩
 have ha:(w5.alloc o).heap.size=w5.heap.size+1:=sz1 w5 o
 have hkv:∀b,v.ownBlock=some b→M≤b∧b < wr.heap.size:=fun b hb=>by
  have a1:=o1.lt b hb
  obtain⟨cs2,a2⟩:=h.own.own
  exact⟨a1.1,(a2.lt b hb).2⟩
 have f7:Fr (fun b=>M≤b) w5 w7:=((Fr.refl _ w5).alloc o).grown p2 (fun b hb=>.inr (hkv b hb).1)
 have old7:∀b,b < M→w7.heap[b]?=wr.heap[b]?:=fun b hb=>(f7.block b (by omega) (by omega)).trans (old b (by omega))
 have k7:=(old7 _ (by omega)).trans h.o
 have hx':GAt D (Off M v) (w5.alloc o) [c0,c1,c2,c3] x:=by
  refine (hE.kept (w:=w5) (fun b _ hb=>Below.heap_alloc w5 o b hb) (hE.mono (P:=fun b=>wr.heap.size≤b) (fun b hb _=>⟨by omega,fun e=>?_⟩) hx))
  have:=(hkv b e.symm).2
  omega
 have o3':∀(i:Nat) (c:List Value) (x:G),css[i]?=some c→xs[i]?=some x→c.length=4∧GAt D (Off M v) (w5.alloc o) c x:=fun i c x hc hx=>⟨(o3 i c x hc hx).1,hE.kept (w:=w5) (fun b _ hb=>Below.heap_alloc w5 o b hb) (o3 i c x hc hx).2⟩
 have o8:OwnRows (GAt D) M 27 4 w7 v' (xs++[x]):=OwnRows.snoc hE o2 o3' rfl hx' (by rw[h.len];exact p1) p2 p3
 have k8:∀b,b≠w.heap.size+3→(w7.setCell ⟨w.heap.size+3,3,none⟩ v').heap[b]?=w7.heap[b]?:=fun b hb=>Below.heap_setCell _ _ _ _ hb
 refine⟨k7,fun b h1 h2=>(p2.block b (by omega) (fun e=>by have:=(hkv b e.symm).2;omega)).trans (Below.heap_alloc w5 o b h2),fun b h1 h2=>(k8 b h2).trans (old7 b h1),((h.fr.trans f).transNew f7 (fun b hb=>.inl (by omega))).setNew (by show w.heap.size≤w.heap.size+3;omega) v',?_,?_,Lib.heap_setCell_same (i:=3) k7 _,OwnRows.kept hE (fun b hb _=>k8 b (by omega)) o8,by rw[List.length_append,h.len];rfl,⟨hm.1,by have s8:(w7.setCell ⟨w.heap.size+3,3,none⟩ v').heap.size=w7.heap.size:=(by simp[World.setCell]);have:=f7.size;omega⟩⟩
 ·rw[k8 _ (by omega),old7 _ (by omega)];exact h.box
 ·rw[k8 _ (by omega),old7 _ (by omega)];exact h.res
theorem KcAt.post{k d i M:Nat}{va:Option Addr}{vc:Nat}(h:KcAt w tB BX D k d M i (.slice va i vc) xs wr)(hk:k≤15)(hd:d≤3)(hx:i≤4096){wz:World}(f:Fr (Eq (w.heap.size+1)) wr wz):TrPost (D+1) k d (G.mk k d [] xs) w (.returned (.agg #[.int .i64 k,.int .i64 d,.slice none 0 0,.slice va i vc])) wz:=by
 have hE:=GAt.kp D
 refine⟨none,0,0,va,i,vc,rfl,h.fr.transNew f (fun b e=>.inl (by omega)),_,_,rfl,⟨rfl,none,0,rfl,Nat.le_refl _,fun _=>⟨rfl,rfl⟩,fun h=>absurd h (Nat.lt_irrefl 0)⟩,?_,Nat.zero_le _,by show xs.length≤4096;rw[h.len];exact hx,Int.natCast_nonneg k,by show (k:Int)≤15;omega,Int.natCast_nonneg d,by show (d:Int)≤3;omega⟩
 exact RowsAt.mono hE (by decide) (fun b hb _=>by have:=h.ms;omega) ((OwnRows.kept hE (w':=wz) (fun b hb hl=>f.block b hl (by have:=h.ms;omega)) h.own).done hE (by decide))
end
theorem run_copy_rows{w:World}(ty:TypeId)(dT sT elem:TypeId)(hu:Tryz.prog.underlying dT=some (.slice elem))(i:TypeInfo)(hi:Tryz.prog.info? elem=some i)(S:Nat)(hS:i.size=S)
  (g n cap:Nat) (ad:Addr) (sCap:Nat) (cur:Array Value) (t:TypeId) (hg:w.heap[g]?=some (.cells cur t (0,0))) (cs:List Value) (hl:cs.length=n*S) (hcur:cur.size=n*S)
  (hsrc:∀j v,cs[j]?=some v→w.cell? (ad.add j)=some v) (h1:∀v∈cs,v.oneCell'=true) :
  (Builtin.copy_ #[dT,sT] ty #[.slice (some ⟨g,0,none⟩) n cap,.slice (some ad) n sCap]).run Tryz.prog w=.ok (.int .i64 n) (w.setRow g cs.toArray):=by
 have hl2:=run_loadCells_list (P:=Tryz.prog) w ad cs hsrc
 have hst:=run_storeCells_at Tryz.prog g 0 t cs 0 cur w hg (by omega) h1
 have e:cur.toList.take (0+0)++cs++cur.toList.drop (0+0+cs.length)=cs:=by
  rw[List.drop_of_length_le (by rw[Array.length_toList];omega)]
  simp
 rw[e] at hst
 rw[hl] at hl2
 simp[Builtin.copy_,run_underlying hu,Builtin.lenOf,Builtin.firstCells,sizeOf,typeInfo,hi,hS,hl2,hst,goInt]
theorem info121r:∃i,Tryz.prog.info? 121=some i∧i.size=2:=by
 have h:=info121
 cases hq:Tryz.prog.info? 121 with
 | none=>rw[hq] at h;simp at h
 | some i=>rw[hq] at h;simp at h;exact⟨i,rfl,h.2.1⟩
theorem dump138{d:Nat}{P Q:Nat→Prop}{w:World}{g o n c:Nat}{xs:List (List Nat)}(hP:∀b,P b→b < w.heap.size→Q b)(hQ:∀b,w.heap.size≤b→Q b)(h:RowsAt (LnE d) P 2 w (.slice (some ⟨g,o,none⟩) n c) xs)(hn4:n≤4096):
  Calls Tryz.prog 138 #[.agg #[.slice (some ⟨g,o,none⟩) n c,.int .u8 d]] w fun e w'=>∃g':Nat,e=.returned (.slice (some ⟨g',0,none⟩) n n)∧Hid (ZF w w'∧RowsAt (LnE d) Q 2 w' (.slice (some ⟨g',0,none⟩) n n) xs):=by
 obtain⟨css,hnx,hnc,hcl,hfl,hfc,hone,hE⟩:=ln_cells h
 have hmk:=make124 n (by omega)
 obtain⟨i0,hi0,hi2⟩:=info121r
 have b:=two_allocs w (.cells #[.slice (some ⟨g,o,none⟩) n c,.int .u8 d] 126) (.cells (madeCells #[.int .u8 0,.slice none 0 0] (n*2)) 121)
 obtain⟨w0,hw0⟩:∃w0,w0=(w.alloc (.cells #[.slice (some ⟨g,o,none⟩) n c,.int .u8 d] 126)).alloc (.cells (madeCells #[.int .u8 0,.slice none 0 0] (n*2)) 121):=⟨_,rfl⟩
 have s0:w0.heap.size=w.heap.size+2:=by rw[hw0,sz1,sz1]
 rw[←hw0] at b
 have f0:ZF w w0:=by rw[hw0];exact ((Fr.refl _ w).alloc _).alloc _
 have HW0:=zH hw0
 have q0:w0.cell? ⟨w.heap.size,0,none⟩=some (.slice (some ⟨g,o,none⟩) n c):=by rw[zC b.1];rfl
 have HB:=zH b.2
 have HC:Hid (∀j u,css.flatten[j]?=some u→w0.cell? ((⟨g,o,none⟩:Addr).add j)=some u):=fun j u hu=>by
  have e:(⟨g,o,none⟩:Addr).add j=⟨g,o+j,none⟩:=by cases j<;>simp[Addr.add]
  rw[e]
  exact f0.cell (hfc j u hu) (fun h=>h)
 have H1:=zH hone
 have HFL:=zH hfl
 have HSZ:Hid ((madeCells #[Value.int .u8 0,.slice none 0 0] (n*2)).size=n*2):=size_madeCells _ _
 have HF:Hid (ZF w (w0.setRow (w.heap.size+1) css.flatten.toArray)∧RowsAt (LnE d) Q 2 (w0.setRow (w.heap.size+1) css.flatten.toArray) (.slice (some ⟨w.heap.size+1,0,none⟩) n n) xs):=by
  have hr:=setRow_heap w0 (w.heap.size+1) _ css.flatten.toArray 121 (0,0) b.2
  have hk:∀k,k≠w.heap.size+1→(w0.setRow (w.heap.size+1) css.flatten.toArray).heap[k]?=w0.heap[k]?:=fun k hk=>setRow_other w0 _ k _ hk
  have f:ZF w (w0.setRow (w.heap.size+1) css.flatten.toArray):=⟨f0.os,f0.tape,f0.output,by simp[World.setRow];omega,fun k hk2 _=>(hk k (by omega)).trans (f0.block k hk2 (fun h=>h))⟩
  refine⟨f,css,⟨by rw[hfl,hnx],some ⟨w.heap.size+1,0,none⟩,n,by rw[hnx],by omega,fun e=>by simp at e,fun _=>⟨w.heap.size+1,0,rfl,hQ _ (by omega),fun j u hu=>?_⟩⟩,hcl,fun i c x hc hx=>⟨(hE i c x hc hx).1,(LnE.kp d).kept (fun b _ hl=>f.block b hl (fun h=>h)) ((LnE.kp d).mono hP (hE i c x hc hx).2)⟩⟩
  rw[zC hr,Nat.zero_add]
  simpa using hu
 have hcp:=run_copy_rows 3 124 124 121 Tryz.underlying124 i0 hi0 2 hi2 (w.heap.size+1) n n ⟨g,o,none⟩ c _ 121 HB.out css.flatten HFL.out HSZ.out HC.out H1.out
 clear h hE hfl hcl hfc hone hnx hw0 b f0 s0 hP hQ
 go_enter Tryz.func138,Tryz.ntmps138
 go_upto_region 2 with fail
 rw[←HW0.out]
 clear hmk
 go_wp2_with fail
 exact bodyPost_ret (v:=.slice (some ⟨w.heap.size+1,0,none⟩) n n) (by simp[results,Tryz.f138,go_sem]) rfl ⟨_,rfl,HF.out⟩
open Go.RowKit
theorem k4a{i:Nat}(hi:i≤4096):i+1≤maxLen∧(i+1)*64≤140737488355328:=⟨by unfold maxLen;omega,by omega⟩
theorem plain59{d:Nat}(hd:d≤3){P:Nat→Prop}{w:World}{g o n c:Nat}{xs:List (List Nat)}(h:RowsAt (LnE d) P 2 w (.slice (some ⟨g,o,none⟩) n c) xs)(hnx:n=xs.length)(hn4:n≤4096):
  Calls Tryz.prog 59 #[.agg #[.slice (some ⟨g,o,none⟩) n c,.int .u8 d]] w (TrPost 2 3 d (G.mk 3 d [] (xs.map fun x=>G.mk 2 d x [])) w):=by
 have C137:=zH ac137
 have C138:Hid (∀w1,ZF w w1→w.heap.size+4≤w1.heap.size→Calls Tryz.prog 138 #[.agg #[.slice (some ⟨g,o,none⟩) n c,.int .u8 d]] w1 fun e w'=>∃g':Nat,e=.returned (.slice (some ⟨g',0,none⟩) n n)∧Hid (ZF w1 w'∧RowsAt (LnE d) (fun b=>b≠w.heap.size+3) 2 w' (.slice (some ⟨g',0,none⟩) n n) xs)):=fun w1 f hs=>by
  have h1:RowsAt (LnE d) (fun b=>b < w.heap.size) 2 w (.slice (some ⟨g,o,none⟩) n c) xs:=h.mono (LnE.kp d) (by decide) (fun b _ hl=>hl)
  have h2:=h1.kept (w':=w1) (LnE.kp d) (fun b _ hl=>f.block b hl (fun h=>h))
  exact dump138 (fun b hb _=>by omega) (fun b hb=>by omega) h2 hn4
 obtain⟨i0,hi0,hz0,hz1,hz2⟩:=info_parts info27
 have hcv:IntKind.i64.wrap (d:Int)=d:=by simp[IntKind.wrap,IntKind.bits,IntKind.signed];omega
 have HD:=zH hd
 have HNX:=zH hnx
 clear h hnx
 go_enter Tryz.func59,Tryz.ntmps59
 go_upto_region 2 with (go_at_call 137;refine (C137.out _ _ _ _ _ _).mono ?_;rintro e w1 ⟨rfl,rfl⟩)
 generalize hwA:(((w.alloc _).alloc _).alloc _).alloc _=wA
 have bA:=al_at1 w (.cells #[.slice (some ⟨g,o,none⟩) n c,.int .u8 d] 126) (.cells #[.int .i64 0,.int .i64 0,.slice none 0 0,.slice none 0 0] 27) (.cells #[.slice (some ⟨g,o,none⟩) n c,.int .u8 d] 126) (.cells #[.int .i64 3,.int .i64 d,.slice none 0 0,.slice none 0 0] 27)
 rw[hwA] at bA
 obtain⟨bA0,bA1,bA3⟩:=bA
 have FA:Hid (ZF w wA):=by show Fr _ _ _;rw[←hwA];exact ((((Fr.refl _ w).alloc _).alloc _).alloc _).alloc _
 have BA:=zH (⟨bA0,bA1,bA3⟩:_∧_∧_)
 have q0:wA.cell? ⟨w.heap.size,0,none⟩=some (.slice (some ⟨g,o,none⟩) n c):=by rw[zC bA0];rfl
 have q1:wA.cell? ⟨w.heap.size,1,none⟩=some (.int .u8 d):=by rw[zC bA0];rfl
 have C:=zH (C138.out wA FA.out (zG bA3).1)
 clear bA0 bA1 bA3 hwA C138
 go_upto_region 3 with (go_at_call 138;refine C.out.mono ?_;rintro e wD ⟨g',rfl,hp⟩)
 have HS:Hid (w.heap.size+4≤wD.heap.size):=Nat.le_trans (zG BA.out.2.2).1 hp.out.1.size
 have KD:Hid (KcAt w 126 #[.slice (some ⟨g,o,none⟩) n c,.int .u8 d] 1 3 d wD.heap.size 0 (.slice none 0 0) [] wD):=⟨FA.out.trans hp.out.1,(hp.out.1.block _ (zG BA.out.1).1 (fun h=>h)).trans BA.out.1,(hp.out.1.block _ (zG BA.out.2.1).1 (fun h=>h)).trans BA.out.2.1,(hp.out.1.block _ (zG BA.out.2.2).1 (fun h=>h)).trans BA.out.2.2,OwnRows.nil,rfl,⟨HS.out,Nat.le_refl _⟩⟩
 have HR:=zH hp.out.2
 obtain⟨M,hM⟩:∃M,M=wD.heap.size:=⟨_,rfl⟩
 rw[←hM] at KD
 have HM:=zH hM
 clear hp q0 q1 BA C HS hM
 go_loopw [13] (fun iv wr=>∃(i:Nat) (va:Option Addr) (vc:Nat),iv=.int .i64 (i:Int)∧i≤n∧Hid ((∀b,b < M→b≠w.heap.size+3→wr.heap[b]?=wD.heap[b]?)∧KcAt w 126 #[.slice (some ⟨g,o,none⟩) n c,.int .u8 d] 1 3 d M i (.slice va i vc) ((xs.take i).map fun x=>G.mk 2 d x []) wr)) (fun iv _=>n - (intOf iv).toNat)
 case atStart=>exact⟨0,none,0,rfl,Nat.zero_le _,fun _ _ _=>rfl,KD.out⟩
 case round =>
  obtain⟨i,va,vc,rfl,hi,hrel⟩:=hrel
  by_cases hlt:i < n
  ·have hix:i < xs.length:=by rw[←HNX.out];exact hlt
   have HRW:RowsAt (LnE d) (fun b=>b≠w.heap.size+3) 2 wr (.slice (some ⟨g',0,none⟩) n n) xs:=HR.out.kept (LnE.kp d) (fun b hb hl=>hrel.out.1 b (by rw[HM.out];exact hl) hb)
   obtain⟨g2,o2,n2,c2,hE,c0,c1⟩:=ln_at HRW hix
   rw[Nat.zero_add] at c0 c1
   obtain⟨x,hx⟩:∃x,x=xs[i]:=⟨_,rfl⟩
   rw[←hx] at hE
   have HX:Hid ((xs.take (i+1)).map (fun x=>G.mk 2 d x [])=(xs.take i).map (fun x=>G.mk 2 d x [])++[G.mk 2 d x []]):=by show _=_;rw[List.take_succ_eq_append_getElem hix,List.map_append,hx];rfl
   obtain⟨wk,hwk⟩:∃wk,wk=wr.alloc (.cells #[.int .u8 d,.slice (some ⟨g2,o2,none⟩) n2 c2] 121):=⟨_,rfl⟩
   have fk:ZF wr wk:=by rw[hwk];exact (Fr.refl _ wr).alloc _
   have bk:wk.heap[wr.heap.size]?=some (.cells #[.int .u8 d,.slice (some ⟨g2,o2,none⟩) n2 c2] 121 (0,0)):=by rw[hwk];exact zN wr _
   have C57:Hid (Calls Tryz.prog 57 #[.agg #[.int .u8 d,.slice (some ⟨g2,o2,none⟩) n2 c2]] wk.drew (TrPost 1 2 d (G.mk 2 d x []) wk.drew)):=by
    obtain⟨ga,oa,na,ca,e,e1,_,_,e2,e3,_,e4⟩:=hE
    simp only[List.cons.injEq,Value.slice.injEq,Option.some.injEq,Addr.mk.injEq,and_true,true_and] at e
    obtain⟨⟨rfl,rfl⟩,rfl,rfl⟩:=e
    exact plain57 d HD.out g2 o2 n2 c2 x wk.drew e1 e3 e2 (fun j u hu=>fk.drew.cell (e4 j u hu) (fun h=>h))
   have HNX2:Hid (∀(w5:World) (x0 x1 x2 x3:Value),ZF wk.drew w5→GAt 1 (fun b=>wk.drew.heap.size≤b) w5 [x0,x1,x2,x3] (G.mk 2 d x [])→_):=fun w5 x0 x1 x2 x3 f gg=>hrel.out.2.next (w5:=w5) ((fk.drew).trans f) (c0:=x0) (c1:=x1) (c2:=x2) (c3:=x3) (x:=G.mk 2 d x []) ((GAt.kp 1).mono (fun b hb _=>by have e:wk.drew.heap.size=wk.heap.size:=rfl;have:=fk.size;omega) gg)
   have BK:=zH bk
   have OK:=zH ((fk.block _ (zG hrel.out.2.o).1 (fun h=>h)).trans hrel.out.2.o)
   have HWK:=zH hwk
   have HOLD:=zH hrel.out.1
   have HMS:Hid (M≤wk.heap.size):=Nat.le_trans hrel.out.2.ms.2 fk.size
   have K3:=zH (k4a (i:=i) (by omega)).1
   have K4:=zH (k4a (i:=i) (by omega)).2
   clear hx fk hE hwk bk hrel HRW hix
   go_upto_region 5 with fail
   rw[←HWK.out]
   clear c0 c1
   have p0:wk.cell? ⟨wr.heap.size,0,none⟩=some (.int .u8 d):=by rw[zC BK.out];rfl
   have p1:wk.cell? ⟨wr.heap.size,1,none⟩=some (.slice (some ⟨g2,o2,none⟩) n2 c2):=by rw[zC BK.out];rfl
   obtain⟨o0,o1,o2',o3,of⟩:=g_cells (b:=w.heap.size+1+1+1) OK.out
   go_region_law (first|(go_simp;go_at_call 57;(with_reducible refine C57.out.mono ?_);rintro e w5 ⟨ra,rn,rc,sa,sn,sc,rfl,hp⟩;obtain⟨cs,hown,hnx⟩:=HNX2.out _ _ _ _ _ hp.out.1 hp.out.2;have OWN:=zH hown;have NX:=zH hnx;clear hown hnx;have F5:=zH hp.out.1;clear hp;have BK5:=zH ((F5.out.block _ (zG BK.out).1 (fun h=>h)).trans BK.out);have p0:w5.cell? ⟨wr.heap.size,0,none⟩=some (.int .u8 d):=(by rw[zC BK5.out];rfl);have p1:w5.cell? ⟨wr.heap.size,1,none⟩=some (.slice (some ⟨g2,o2,none⟩) n2 c2):=(by rw[zC BK5.out];rfl);obtain⟨o0,o1,o2',o3,of⟩:=g_cells (b:=w.heap.size+1+1+1) ((F5.out.block _ (zG OK.out).1 (fun h=>h)).trans OK.out);have o3n:∀ob:Obj,(w5.alloc ob).cell? ⟨w.heap.size+1+1+1,3,none⟩=some (.slice va i vc):=fun ob=>(World.cell?_of_block (Below.heap_alloc w5 ob _ (World.block_lt_of_cell? w5 _ o3))).trans o3;have p0n:∀ob:Obj,(w5.alloc ob).cell? ⟨wr.heap.size,0,none⟩=some (.int .u8 d):=fun ob=>(World.cell?_of_block (Below.heap_alloc w5 ob _ (World.block_lt_of_cell? w5 _ p0))).trans p0;have p1n:∀ob:Obj,(w5.alloc ob).cell? ⟨wr.heap.size,1,none⟩=some (.slice (some ⟨g2,o2,none⟩) n2 c2):=fun ob=>(World.cell?_of_block (Below.heap_alloc w5 ob _ (World.block_lt_of_cell? w5 _ p1))).trans p1)|(refine step_append_lies _ (by rfl) _ _ _ (by rfl) M 27 i0 (.agg #[.int .i64 0,.int .i64 0,.slice none 0 0,.slice none 0 0]) 4 64 Tryz.underlying25 hi0 hz0 hz1 hz2 rfl (by decide) _ i cs (by rfl) (OWN.out.alloc _) ⟨_,0,none⟩ 1 1 [.int .i64 2,.int .i64 d,.slice ra rn rc,.slice sa sn sc] (by rfl) rfl (cell4_new _ _ _ _ _ _) (four_one _ _ _ _ _ _ _ _) (by omega) K3.out K4.out (by have h1:=F5.out.size;have h2:wk.drew.heap.size=wk.heap.size:=rfl;have h3:=HMS.out;show _≤(w5.heap.push _).size;rw[Array.size_push];omega) _ rfl ?_;intro g6 cap6 w7 hown hgrow hat hlt7;have HH:=zH (NX.out _ _ _ hown hgrow (hat.imp (fun h=>h.symm) (fun h=>congrArg some h)));clear hown hgrow hat;obtain⟨o0,o1,o2',o3,of⟩:=g_cells (b:=w.heap.size+1+1+1) HH.out.1))
   all_goals
    have HREL:Hid ((∀b,b < M→b≠w.heap.size+3→(w7.setCell ⟨w.heap.size+1+1+1,3,none⟩ (.slice (some ⟨g6,0,none⟩) (i+1) cap6)).heap[b]?=wD.heap[b]?)∧KcAt w 126 #[.slice (some ⟨g,o,none⟩) n c,.int .u8 d] 1 3 d M (i+1) (.slice (some ⟨g6,0,none⟩) (i+1) cap6) ((xs.take (i+1)).map fun x=>G.mk 2 d x []) (w7.setCell ⟨w.heap.size+1+1+1,3,none⟩ (.slice (some ⟨g6,0,none⟩) (i+1) cap6))):=by
     show _∧KcAt _ _ _ _ _ _ _ _ _ _ _
     rw[HX.out]
     exact⟨fun b h1 h2=>(HH.out.2.2.1 b h1 h2).trans (HOLD.out b h1 h2),HH.out.2.2.2⟩
    clear HH NX OWN F5 BK5 BK OK HWK HNX2 o0 o1 o2' o3 of p0 p1 C57 HX
    go_wp2_with fail
    go_roundw
    case rel=>exact⟨i+1,_,_,by go_num,by omega,HREL.out⟩
    case measure=>simp[intOf];omega
  ·have hin:i=n:=by omega
   subst hin
   have KF:=zH hrel.out.2
   obtain⟨p0,p1,p2,p3,pf⟩:=g_cells (b:=w.heap.size+1+1+1) KF.out.o
   obtain⟨r0,r1,r2,r3,rf⟩:=g_cells (b:=w.heap.size+1) KF.out.res
   have HF:=zH (KF.out.post (k:=3) (by decide) HD.out hn4 (fr4 wr (w.heap.size+1) (.int .i64 3) (.int .i64 d) (.slice none 0 0) (.slice va i vc)))
   rw[List.take_of_length_le (by rw[←HNX.out];omega)] at HF
   clear hrel KF
   go_wp2_with fail
   exact bodyPost_ret (v:=.agg #[.int .i64 3,.int .i64 d,.slice none 0 0,.slice va i vc]) (by simp[results,Tryz.f59,go_sem,r0,r1,r2,r3]) rfl HF.out
end Go.Proofs.YtnjjgbcmjnfijaaGreatDoor
