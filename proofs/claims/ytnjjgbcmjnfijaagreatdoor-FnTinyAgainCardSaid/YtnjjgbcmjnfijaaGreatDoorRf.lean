/- The package's reader of tiny bytes: the size, the box, all headers. No condition. -/
import Derived.Test.YtnjjgbcmjnfijaaGreatDoorRd
import Derived.Test.YtnjjgbcmjnfijaaGreatDoorR6
import Derived.Test.YtnjjgbcmjnfijaaGreatDoorR4
namespace Go.Proofs.YtnjjgbcmjnfijaaGreatDoor
set_option maxRecDepth 100000
set_option maxHeartbeats 4000000
open Go.RowKit
theorem ext189{pb tb tf tc:Nat}{T:List UInt8}{p:Pr}{w:World}(h:PrAt pb tb tf tc T p w)(ht:TenTab w)(hp3:3≤pb)(hi:p.hz=false∧p.hm=false∧p.dims=2){b1:UInt8}(hb:T[p.pos]?=some b1):
  Calls Tryz.prog 189 #[.pointer (some ⟨pb,0,none⟩)] w (StPost pb tb tf tc T (p.ext b1.toNat) w):=by
 have hc:b1.toNat % 4=0∨b1.toNat % 4=1∨b1.toNat % 4=2∨b1.toNat % 4=3:=by omega
 rcases hc with e|e|e|e
 ·exact ext189_0 h ht hp3 hi hb e
 ·exact ext189_1 h ht hp3 hi hb e
 ·exact ext189_2 h ht hp3 hi hb e
 ·exact ext189_3 h ht hp3 hi hb e
theorem size190{pb tb tf tc:Nat}{T:List UInt8}{p:Pr}{w:World}(h:PrAt pb tb tf tc T p w){z:Nat}{l':List UInt8}(hu:UV (T.drop p.pos) z l')(hz:z≤l'.length):
  Calls Tryz.prog 190 #[.pointer (some ⟨pb,0,none⟩)] w fun e w'=>∃q,StPost pb tb tf tc T { p with pos:=q } w e w'∧p.pos < q∧q≤T.length∧l'=T.drop q:=by
 have hlt:p.pos < T.length:=by
  obtain⟨m,hm1,hm2,_,_⟩:=hu
  rw[List.length_drop] at hm2
  omega
 have hl:=h.len
 have H:=zH h
 have HU:=zH hu
 have HZ:=zH hz
 have c0:=h.c0
 have c1:=h.c1
 have hle2:decide ((T.length:Int)≤(p.pos:Int))=false:=by simp;omega
 clear h hu hz
 go_enter Tryz.func190,Tryz.ntmps190
 go_upto_region 1 with fail
 go_quiet (fail)
 generalize hw1:w.drewN _=w1
 have f1:ZF w w1:=by rw[←hw1];exact (Fr.refl _ w).drewN _
 have H1:=zH (H.out.keep f1)
 have F1:=zH f1
 have C238:=zH (uvar238 H1.out HU.out)
 clear hw1 f1 c0 c1 hle2
 go_upto_region 6 with (go_at_call 238;refine C238.out.mono ?_;rintro e w2 ⟨rfl,q,h2⟩)
 have HP2:=zH h2.out.2.2.2.1
 have c0:=HP2.out.c0
 have c1:=HP2.out.c1
 have hq:q≤T.length:=h2.out.2.1
 have hqz:q+z≤T.length:=by
  have h5:=HZ.out
  have h6:l'=T.drop q:=h2.out.2.2.1
  rw[h6,List.length_drop] at h5
  omega
 have w1a:IntKind.u64.wrap (q:Int)=(q:Int):=by simp[IntKind.wrap,IntKind.bits,IntKind.signed];omega
 have w1b:IntKind.u64.wrap (T.length:Int)=(T.length:Int):=by simp[IntKind.wrap,IntKind.bits,IntKind.signed];omega
 have w1c:IntKind.u64.wrap ((q:Int)+(z:Int))=(q:Int)+(z:Int):=by simp[IntKind.wrap,IntKind.bits,IntKind.signed];omega
 have w1d:decide ((T.length:Int) < (q:Int)+(z:Int))=false:=by simp;omega
 go_quiet (fail)
 generalize hw3:w2.drewN _=w3
 have f3:ZF w2 w3:=by rw[←hw3];exact (Fr.refl _ w2).drewN _
 have HF:Hid ((PrAt pb tb tf tc T { p with pos:=q } w3∧Fr (Eq pb) w w3)∧p.pos < q∧l'=T.drop q):=⟨⟨HP2.out.keep f3,((F1.out.weak (fun _ h=>h.elim)).trans h2.out.2.2.2.2).trans (f3.weak (fun _ h=>h.elim))⟩,h2.out.1,h2.out.2.2.1⟩
 clear hw3 f3 c0 c1 w1a w1b w1c w1d
 go_wp2_with fail
 go_ret
 exact⟨q,⟨rfl,HF.out.1⟩,HF.out.2.1,hq,HF.out.2.2⟩
structure BbAt (pb tb tf tc:Nat) (T:List UInt8) (p:Pr) (ds:List Int) (l':List UInt8) (w:World) (B t:Nat) (v:Value) (wr:World):Prop where
 fr:Fr (Eq pb) w wr
 st:∃(q:Nat) (dn rest:List Int),p.pos≤q∧q≤T.length∧PrAt pb tb tf tc T { p with pos:=q,bv:=v } wr∧ds=dn++rest∧dn.length=t∧RC (T.drop q) rest l'∧wr.ownsRow B 2 1 v t (dn.map iv)
theorem BbAt.next{pb tb tf tc:Nat}{T:List UInt8}{p:Pr}{ds:List Int}{l':List UInt8}{w:World}{B t:Nat}{v:Value}{wr:World}(h:BbAt pb tb tf tc T p ds l' w B t v wr)(hB:w.heap.size≤B)(hpb:pb < w.heap.size)(htb:tb < w.heap.size)(ht:t < ds.length):
  ∃d,Calls Tryz.prog 239 #[.pointer (some ⟨pb,0,none⟩)] wr (fun e w2=>e=.returned (.tuple #[.int .i64 d,.nilIface])∧Hid (w2.cell? ⟨pb,19,none⟩=some v∧(∀i,w2.frozen? ⟨pb,i,none⟩=false)∧wr.heap.size≤w2.heap.size∧w2.ownsRow B 2 1 v t ((ds.take t).map iv) ∧
   ∀(o:Obj) (w7:World) (v':Value) (row:Option Nat),row=v.ownBlock→(w2.alloc o).grownBy w7 row→w7.ownsRow B 2 1 v' (t+1) ((ds.take t).map iv++[.int .i64 d])→w7.cell? ⟨pb,19,none⟩=some v∧(∀i,w7.frozen? ⟨pb,i,none⟩=false)∧BbAt pb tb tf tc T p ds l' w B (t+1) v' (w7.setCell ⟨pb,19,none⟩ v'))):=by
 obtain⟨q,dn,rest,h1,h2,h3,h4,h5,h6,h7⟩:=h.st
 obtain⟨d,rest',rfl⟩:∃d rest',rest=d :: rest':=by
  cases rest with
  | nil=>exfalso;rw[h4] at ht;simp at ht;omega
  | cons d rest'=>exact⟨d,rest',rfl⟩
 obtain⟨z,l1,hu,hz,rfl,hrc⟩:=h6.step
 have hdt:ds.take t=dn:=by rw[h4,List.take_append_of_le_length (by omega),List.take_of_length_le (by omega)]
 refine⟨unz z,(svar239 (p:={ p with pos:=q,bv:=v }) h3 hu).mono ?_⟩
 rintro e w2 ⟨rfl,q2,hh⟩
 obtain⟨a1,a2,a3,a4,a5⟩:=hh.out
 have o2:w2.ownsRow B 2 1 v t (dn.map iv):=ownsRow_fr h7 a5 (fun g e=>by omega)
 refine⟨rfl,a4.c19,fun i=>a4.fz i,a5.size,by rw[hdt];exact o2,fun o w7 v' row hrow hg o7=>?_⟩
 subst hrow
 have f7:Fr (fun b=>B≤b) w2 w7:=((Fr.refl _ w2).alloc o).grown hg (fun k hk=>.inr (o2.lt k hk).1)
 have p7:=a4.fr f7 (by omega) (by omega)
 have p8:=p7.set 19 v' { p with pos:=q2,bv:=v' } rfl a2
 have hfr:Fr (Eq pb) w (w7.setCell ⟨pb,19,none⟩ v'):=((h.fr.trans a5).transNew f7 (fun b hb=>.inl (by omega))).trans p8.2
 refine⟨p7.c19,fun i=>p7.fz i,hfr,q2,dn++[unz z],rest',by have h9:q < q2:=a1;omega,a2,p8.1,by rw[h4];simp,by rw[List.length_append,h5];rfl,by rw[←a3];exact hrc,?_⟩
 rw[hdt] at o7
 rw[List.map_append]
 exact ownsRow_fr (R:=Eq pb) o7 p8.2 (fun g e=>by omega)
theorem box191{pb tb tf tc:Nat}{T:List UInt8}{p:Pr}{w:World}(h:PrAt pb tb tf tc T p w)(htw:tb < w.heap.size){m:Nat}(hm:p.dims=m)(hm4:m≤4)(hm2:2≤m)(hbv:p.bv=.slice none 0 0){ds:List Int}{l':List UInt8}(hr:RC (T.drop p.pos) ds l')(hd:ds.length=2*m):
  Calls Tryz.prog 191 #[.pointer (some ⟨pb,0,none⟩)] w fun e w'=>∃q g c,StPost pb tb tf tc T { p with pos:=q,bv:=.slice (some ⟨g,0,none⟩) (2*m) c } w e w'∧Hid (p.pos≤q∧q≤T.length∧l'=T.drop q∧w'.ownsRow w.heap.size 2 1 (.slice (some ⟨g,0,none⟩) (2*m) c) (2*m) (ds.map iv)):=by
 obtain⟨i0,hi0,hz0,hz1,hz2⟩:=info_parts info2
 have hpb:=h.lt
 have P0:Hid (BbAt pb tb tf tc T p ds l' w w.heap.size 0 (.slice none 0 0) w):=⟨Fr.refl _ _,p.pos,[],ds,Nat.le_refl _,h.pos,by rw[←hbv];exact h,rfl,rfl,hr,World.ownsRow_nil _ _ _ _⟩
 have HM:=zH hm
 have HD:=zH hd
 clear h hr hm hbv hd
 go_enter Tryz.func191,Tryz.ntmps191
 go_upto_region 2 with fail
 go_loopw [3] (fun iv wr=>∃(i:Nat) (va:Option Addr) (vc:Nat),i≤m∧iv=.int .i64 (i:Int)∧Hid (BbAt pb tb tf tc T p ds l' w w.heap.size (2*i) (.slice va (2*i) vc) wr)) (fun iv _=>m - (intOf iv).toNat)
 case atStart=>exact⟨0,none,0,Nat.zero_le _,rfl,P0.out⟩
 case round =>
  obtain⟨i,va,vc,hi,rfl,hrel⟩:=hrel
  have c4:wr.cell? ⟨pb,4,none⟩=some (.int .i64 (m:Int)):=by
   obtain⟨q,dn,rest,_,_,h3,_⟩:=hrel.out.st
   have:=h3.c4
   rw[show ({ p with pos:=q,bv:=.slice va (2*i) vc }:Pr).dims=m from HM.out] at this
   exact this
  by_cases hlt:i < m
  ·obtain⟨d1,hc1⟩:=hrel.out.next (Nat.le_refl _) hpb htw (by rw[HD.out];omega)
   have C1:=zH hc1
   have hs1:=hrel.out.fr.size
   clear hc1 hrel
   go_upto_region 7 with (go_at_call 239;refine C1.out.mono ?_;rintro e w2 ⟨rfl,h2⟩)
   have c19:=h2.out.1
   have fz:=h2.out.2.1
   have K3:Hid (2*i+1≤maxLen):=by show _≤_;unfold maxLen;omega
   have K4:Hid ((2*i+1)*8≤140737488355328):=by show _≤_;omega
   have K5:Hid (w.heap.size≤(w2.alloc (.cells #[.int .i64 d1] 2)).heap.size):=by
    have:=h2.out.2.2.1
    show _≤(w2.heap.push _).size
    rw[Array.size_push];omega
   have K7:Hid ((w2.alloc (.cells #[.int .i64 d1] 2)).ownsRow w.heap.size 2 1 (.slice va (2*i) vc) (2*i) ((ds.take (2*i)).map iv)):=h2.out.2.2.2.1.alloc _
   have c19':∀o,(w2.alloc o).cell? ⟨pb,19,none⟩=some (.slice va (2*i) vc):=fun o=>((Fr.refl (fun _=>False) w2).alloc o).cell c19 (fun h=>h)
   go_upto_region 8 with (at_builtin;refine wpList_append_own_at _ rfl _ _ 28 rfl w.heap.size 2 i0 (.int .i64 0) 1 8 Tryz.underlying28 hi0 hz0 hz1 hz2 rfl (by decide) _ _ _ rfl K7.out ⟨_,0,none⟩ 1 1 [.int .i64 d1] rfl rfl (fun j u h=>cell_one_new _ _ _ j u h) (one_one _ rfl) K3.out K4.out K5.out ?_;intro v' w7 hown1 hgrow1 _ hat;obtain⟨g6,cap6,rfl,_,_⟩:=own_capE hown1 (Nat.succ_pos _);have HH:=zH (h2.out.2.2.2.2 _ _ _ _ rfl hgrow1 hown1);clear hown1 hgrow1 hat;have b19:=HH.out.1;have bf:=HH.out.2.1)
   obtain⟨w8,hw8⟩:∃w8,w8=w7.setCell ⟨pb,19,none⟩ (.slice (some ⟨g6,0,none⟩) (2*i+1) cap6):=⟨_,rfl⟩
   rw[←hw8]
   have R8:Hid (BbAt pb tb tf tc T p ds l' w w.heap.size (2*i+1) (.slice (some ⟨g6,0,none⟩) (2*i+1) cap6) w8):=by show BbAt _ _ _ _ _ _ _ _ _ _ _ _ _;rw[hw8];exact HH.out.2.2
   clear hw8 HH b19 bf c19 fz c19' K3 K4 K5 K7
   obtain⟨d2,hc2⟩:=R8.out.next (Nat.le_refl _) hpb htw (by rw[HD.out];omega)
   have C2:=zH hc2
   have hs2:=R8.out.fr.size
   clear hc2 R8
   go_upto_region 11 with (go_at_call 239;refine C2.out.mono ?_;rintro e w9 ⟨rfl,h9⟩)
   have c19:=h9.out.1
   have fz:=h9.out.2.1
   have K3:Hid (2*i+1+1≤maxLen):=by show _≤_;unfold maxLen;omega
   have K4:Hid ((2*i+1+1)*8≤140737488355328):=by show _≤_;omega
   have K5:Hid (w.heap.size≤(w9.alloc (.cells #[.int .i64 d2] 2)).heap.size):=by
    have:=h9.out.2.2.1
    show _≤(w9.heap.push _).size
    rw[Array.size_push];omega
   have K7:Hid ((w9.alloc (.cells #[.int .i64 d2] 2)).ownsRow w.heap.size 2 1 (.slice (some ⟨g6,0,none⟩) (2*i+1) cap6) (2*i+1) ((ds.take (2*i+1)).map iv)):=h9.out.2.2.2.1.alloc _
   have c19':∀o,(w9.alloc o).cell? ⟨pb,19,none⟩=some (.slice (some ⟨g6,0,none⟩) (2*i+1) cap6):=fun o=>((Fr.refl (fun _=>False) w9).alloc o).cell c19 (fun h=>h)
   go_upto_region 3 with (at_builtin;refine wpList_append_own_at _ rfl _ _ 28 rfl w.heap.size 2 i0 (.int .i64 0) 1 8 Tryz.underlying28 hi0 hz0 hz1 hz2 rfl (by decide) _ _ _ rfl K7.out ⟨_,0,none⟩ 1 1 [.int .i64 d2] rfl rfl (fun j u h=>cell_one_new _ _ _ j u h) (one_one _ rfl) K3.out K4.out K5.out ?_;intro v' w10 hown1 hgrow1 _ hat;obtain⟨g7,cap7,rfl,_,_⟩:=own_capE hown1 (Nat.succ_pos _);have HH:=zH (h9.out.2.2.2.2 _ _ _ _ rfl hgrow1 hown1);clear hown1 hgrow1 hat;have b19:=HH.out.1;have bf:=HH.out.2.1)
   have HR:Hid (BbAt pb tb tf tc T p ds l' w w.heap.size (2*(i+1)) (.slice (some ⟨g7,0,none⟩) (2*(i+1)) cap7) (w10.setCell ⟨pb,19,none⟩ (.slice (some ⟨g7,0,none⟩) (2*(i+1)) cap7))):=HH.out.2.2
   clear HH b19 bf c19 fz c19' K3 K4 K5 K7
   go_wp2_with fail
   go_roundw
   case rel=>exact⟨i+1,_,_,by omega,by go_num,HR.out⟩
   case measure=>simp[intOf];omega
  ·have hin:i=m:=by omega
   subst hin
   have HF:Hid (∃q g c,StPost pb tb tf tc T { p with pos:=q,bv:=.slice (some ⟨g,0,none⟩) (2*i) c } w (.returned .nilIface) wr∧Hid (p.pos≤q∧q≤T.length∧l'=T.drop q∧wr.ownsRow w.heap.size 2 1 (.slice (some ⟨g,0,none⟩) (2*i) c) (2*i) (ds.map iv))):=by
    obtain⟨q,dn,rest,h1,h2,h3,h4,h5,h6,h7⟩:=hrel.out.st
    have hr0:rest=[]:=by
     have h8:=HD.out
     rw[h4] at h8
     simp at h8
     exact List.eq_nil_of_length_eq_zero (by omega)
    subst hr0
    rw[List.append_nil] at h4
    subst h4
    obtain⟨g,c,hv,_,_⟩:=own_capE h7 (by omega)
    rw[hv] at h3 h7
    exact⟨q,g,c,⟨rfl,h3,hrel.out.fr⟩,h1,h2,by cases h6;rfl,h7⟩
   clear hrel
   go_wp2_with fail
   go_ret
   exact HF.out
open Go.RowKit
structure HdOk (p0 p:Pr) (kind dim:Nat) (ps:List Int) (c:Nat):Prop where
 kind:p.kind=kind
 dm:p.dm=dim
 sc:ScOk p ps
 ok:DmOk p ps
 bb:p.bb=(c % 2 == 1)
 si:p.si=(c / 2 % 2 == 1)
 ix:p.ix=(c / 4 % 2 == 1)
 em:p.em=(c / 16 % 2 == 1)
 iv:p.iv=p0.iv
 rf:p.rf=p0.rf
theorem HdOk.pos{p0 p:Pr}{kind dim:Nat}{ps:List Int}{c:Nat}(h:HdOk p0 p kind dim ps c)(q:Nat)(v:Value):HdOk p0 { p with pos:=q,bv:=v } kind dim ps c :=
 ⟨h.kind,h.dm,⟨h.sc.dims,h.sc.lo,h.sc.hi,h.sc.bd,h.sc.sc⟩,⟨h.ok.le,h.ok.wd,h.ok.hz,h.ok.hm⟩,h.bb,h.si,h.ix,h.em,h.iv,h.rf⟩
structure Pr0 (p:Pr):Prop where
 pos:p.pos=0
 dm:p.dm=0
 dims:p.dims=2
 hz:p.hz=false
 hm:p.hm=false
 bv:p.bv=.slice none 0 0
theorem tn_fl(x:Nat):tn x=floatOfInt .f64 ((10 ^ ((x:Int)).toNat:Nat):Int):=by rw[Int.toNat_natCast];unfold tn;rfl
theorem two_ps{p:Pr}{x:Nat}(hx:x≤7)(hd:p.dims=2)(h0:p.sc 0=tn x)(h1:p.sc 1=tn x):ScOk p [(x:Int),(x:Int)]:=by
 refine⟨hd,by simp,by simp,fun y hy=>?_,fun d hd=>?_⟩
 ·simp at hy;omega
 ·have:d=0∨d=1:=by simp at hd;omega
  rcases this with rfl|rfl
  ·rw[h0];exact tn_fl x
  ·rw[h1];exact tn_fl x
theorem sc_first0(p:Pr)(k x:Nat):(p.first k x).sc 0=tn x:=by unfold Pr.first;dsimp only;rw[if_pos rfl]
theorem sc_first1(p:Pr)(k x:Nat):(p.first k x).sc 1=tn x:=by unfold Pr.first;dsimp only;rw[if_neg (by decide),if_pos rfl]
theorem sc_meta(p:Pr)(c d:Nat):(p.meta c).sc d=p.sc d:=Eq.refl (p.sc d)
theorem sc_ext01(p:Pr)(c d:Nat)(h:d < 2):(p.ext c).sc d=p.sc d:=by
 unfold Pr.ext
 dsimp only
 rw[if_neg (by omega),if_neg (by omega)]
theorem sc_ext2z(p:Pr)(c:Nat)(h:c % 2=1):(p.ext c).sc 2=tn (c / 4 % 8):=by
 unfold Pr.ext
 dsimp only
 rw[if_pos rfl,if_pos h]
theorem sc_ext2m(p:Pr)(c:Nat)(h:¬c % 2=1)(h2:c / 2 % 2=1):(p.ext c).sc 2=tn (c / 32):=by
 unfold Pr.ext
 dsimp only
 rw[if_pos rfl,if_neg h,if_pos h2]
theorem sc_ext3(p:Pr)(c:Nat)(h:c % 4=3):(p.ext c).sc 3=tn (c / 32):=by
 unfold Pr.ext
 dsimp only
 rw[if_neg (by decide),if_pos rfl,if_pos h]
theorem hd_two{p0:Pr}(h0:Pr0 p0){k x c:Nat}(hx:x≤7):HdOk p0 ((p0.first k x).meta c) k 0 [(x:Int),(x:Int)] c:=by
 obtain⟨a1,a2,a3,a4,a5,a6⟩:=h0
 refine⟨rfl,a2,two_ps hx a3 ?_ ?_,⟨by show p0.dm≤3;rw[a2];decide,by show 2=wd p0.dm;rw[a2];rfl,by show p0.hz=(p0.dm % 2 == 1);rw[a4,a2];rfl,by show p0.hm=(p0.dm / 2 % 2 == 1);rw[a5,a2];rfl⟩,rfl,rfl,rfl,rfl,rfl,rfl⟩
 ·rw[sc_meta,sc_first0]
 ·rw[sc_meta,sc_first1]
theorem hd_ext{p0:Pr}{k x c e:Nat}(he:e < 256)(hx:x≤7):HdOk p0 (((p0.first k x).meta c).ext e) k (e % 4) (precsOf (x:Int) e) c:=by
 have hz:e % 2=0∨e % 2=1:=by omega
 have hm:e / 2 % 2=0∨e / 2 % 2=1:=by omega
 have hpz:e / 4 % 8≤7:=by omega
 have hpm:e / 32≤7:=by omega
 have d3:∀d:Nat,d < 3→d=0∨d=1∨d=2:=fun d h1=>by omega
 have d4:∀d:Nat,d < 4→d=0∨d=1∨d=2∨d=3:=fun d h1=>by omega
 have s0:(((p0.first k x).meta c).ext e).sc 0=tn x:=by rw[sc_ext01 _ _ _ (by decide),sc_meta,sc_first0]
 have s1:(((p0.first k x).meta c).ext e).sc 1=tn x:=by rw[sc_ext01 _ _ _ (by decide),sc_meta,sc_first1]
 have hdims:(((p0.first k x).meta c).ext e).dims=wd (e % 4):=Eq.refl (wd (e % 4))
 refine⟨rfl,rfl,?_,⟨by show e % 4≤3;omega,?_,?_,?_⟩,rfl,rfl,rfl,rfl,rfl,rfl⟩
 ·generalize hq:((p0.first k x).meta c)=q at s0 s1 hdims
  rcases hz with hz|hz<;>rcases hm with hm|hm
  ·have h4:e % 4=0:=by omega
   have hps:precsOf (x:Int) e=[(x:Int),(x:Int)]:=by unfold precsOf;simp[hz,hm]
   rw[hps]
   exact two_ps hx (by rw[hdims,h4];rfl) s0 s1
  ·have h4:e % 4=2:=by omega
   have hps:precsOf (x:Int) e=[(x:Int),(x:Int),((e / 32:Nat):Int)]:=by unfold precsOf;simp[hz,hm]
   rw[hps]
   refine⟨by rw[hdims,h4];rfl,by simp,by simp,fun y hy=>by simp at hy;omega,fun d hd=>?_⟩
   rcases d3 _ hd with rfl|rfl|rfl
   ·rw[s0];exact tn_fl x
   ·rw[s1];exact tn_fl x
   ·rw[sc_ext2m _ _ (by omega) hm];exact tn_fl _
  ·have h4:e % 4=1:=by omega
   have hps:precsOf (x:Int) e=[(x:Int),(x:Int),((e / 4 % 8:Nat):Int)]:=by unfold precsOf;simp[hz,hm]
   rw[hps]
   refine⟨by rw[hdims,h4];rfl,by simp,by simp,fun y hy=>by simp at hy;omega,fun d hd=>?_⟩
   rcases d3 _ hd with rfl|rfl|rfl
   ·rw[s0];exact tn_fl x
   ·rw[s1];exact tn_fl x
   ·rw[sc_ext2z _ _ hz];exact tn_fl _
  ·have h4:e % 4=3:=by omega
   have hps:precsOf (x:Int) e=[(x:Int),(x:Int),((e / 4 % 8:Nat):Int),((e / 32:Nat):Int)]:=by unfold precsOf;simp[hz,hm]
   rw[hps]
   refine⟨by rw[hdims,h4];rfl,by simp,by simp,fun y hy=>by simp at hy;omega,fun d hd=>?_⟩
   rcases d4 _ hd with rfl|rfl|rfl|rfl
   ·rw[s0];exact tn_fl x
   ·rw[s1];exact tn_fl x
   ·rw[sc_ext2z _ _ hz];exact tn_fl _
   ·rw[sc_ext3 _ _ h4];exact tn_fl _
 ·show (precsOf (x:Int) e).length=wd (e % 4)
  unfold precsOf wd
  rcases hz with hz|hz<;>rcases hm with hm|hm<;>simp[hz,hm,show e % 4 % 2=e % 2 by omega,show e % 4 / 2 % 2=e / 2 % 2 by omega]
 ·show (e % 2 == 1)=(e % 4 % 2 == 1)
  rw[show e % 4 % 2=e % 2 by omega]
 ·show (e / 2 % 2 == 1)=(e % 4 / 2 % 2 == 1)
  rw[show e % 4 / 2 % 2=e / 2 % 2 by omega]
theorem own_le{w:World}{base base':Nat}{e:TypeId}{size:Nat}{v:Value}{n:Nat}{xs:List Value}(h:w.ownsRow base e size v n xs)(hb:base'≤base):w.ownsRow base' e size v n xs :=
 ⟨h.1,h.2.imp id fun ⟨g,cap,cur,h1,h2,h3⟩=>⟨g,cap,cur,h1,Nat.le_trans hb h2,h3⟩⟩
def BoxOk (p:Pr) (m B:Nat) (w:World):Prop:=p.bb=true→∃(g c:Nat) (ds:List Int),p.bv=.slice (some ⟨g,0,none⟩) (2*m) c∧ds.length=2*m∧w.ownsRow B 2 1 p.bv (2*m) (ds.map iv)∧∀d∈ds,-18014398509481984≤d∧d≤18014398509481984
def HrPost (pb tb tf tc:Nat) (T:List UInt8) (p0:Pr) (kind c dim:Nat) (ps:List Int) (l':List UInt8) (w:World) (e:Ending) (w':World):Prop :=
 e=.returned .nilIface∧∃p:Pr,Hid (PrAt pb tb tf tc T p w'∧Fr (Eq pb) w w'∧HdOk p0 p kind dim ps c∧l'=T.drop p.pos∧BoxOk p ps.length w.heap.size w')
theorem drop_cons{T:List UInt8}{n:Nat}{b:UInt8}{r:List UInt8}(h:T.drop n=b :: r):T[n]?=some b∧r=T.drop (n+1):=by
 have h1:(T.drop n)[0]?=some b:=by rw[h];rfl
 rw[List.getElem?_drop] at h1
 refine⟨h1,?_⟩
 rw[←List.tail_drop,h]
 rfl
theorem head115{pb tb tf tc:Nat}{T:List UInt8}{p:Pr}{w:World}(h:PrAt pb tb tf tc T p w)(htw:tb < w.heap.size)(ht:TenTab w)(hp3:3≤pb)(h0:Pr0 p){kind c dim:Nat}{xy:Int}{ps:List Int}{l':List UInt8}(hh:HeadP T kind c dim xy ps l')(hxy:0≤xy):
  Calls Tryz.prog 115 #[.pointer (some ⟨pb,0,none⟩)] w (HrPost pb tb tf tc T p kind c dim ps l' w):=by
 obtain⟨b0,b1,r1,r2,r3,hT,hk,hx,hc,hE,hS,hB⟩:=hh
 obtain⟨x,hxx⟩:∃x:Nat,xy=(x:Int):=⟨xy.toNat,by omega⟩
 subst hxx
 have hbl:=b0.toNat_lt
 have hx2:b0.toNat / 16=2*x:=by unfold unz at hx;split at hx<;>omega
 have hx7:x≤7:=by omega
 have hpos:=h0.pos
 have hT0:T.drop 0=b0 :: b1 :: r1:=by rw[List.drop_zero];exact hT
 obtain⟨e0,e0'⟩:=drop_cons hT0
 obtain⟨e1,e1'⟩:=drop_cons e0'.symm
 subst hk hc
 have hpb:=h.lt
 have C187:=zH (first187 h ht hp3 (by rw[hpos];exact e0) hx7 hx2)
 have C188:Hid (∀w1,PrAt pb tb tf tc T (p.first (b0.toNat % 16) x) w1→Calls Tryz.prog 188 #[.pointer (some ⟨pb,0,none⟩)] w1 (StPost pb tb tf tc T ((p.first (b0.toNat % 16) x).meta b1.toNat) w1)):=fun w1 h1=>meta188 h1 (by show T[p.pos+1]?=_;rw[hpos];exact e1)
 have HT:=zH ht
 have H0:=zH h0
 have HE:=zH hE
 have HS:=zH hS
 have HB:=zH hB
 have HR1:Hid (r1=T.drop (p.pos+1+1)):=by show _=_;rw[hpos];exact e1'
 obtain⟨zx,hzx⟩:∃z,z=(b1.toNat / 8 % 2 == 1):=⟨_,rfl⟩
 obtain⟨zs,hzs⟩:∃z,z=(b1.toNat / 2 % 2 == 1):=⟨_,rfl⟩
 obtain⟨zb,hzb⟩:∃z,z=(b1.toNat % 2 == 1):=⟨_,rfl⟩
 rw[←hzx] at HE
 rw[←hzs] at HS
 rw[←hzb] at HB
 have HZX:=zH hzx
 have HZS:=zH hzs
 have HZB:=zH hzb
 clear h hT hx hE hS hB hx2 hpos hT0 e0 e0' e1 e1' ht h0 hzx hzs hzb
 go_enter Tryz.func115,Tryz.ntmps115
 go_upto_region 2 with (go_at_call 187;refine C187.out.mono ?_;rintro e w1 ⟨rfl,h1⟩)
 have C188':=zH (C188.out w1 h1.out.1)
 go_upto_region 5 with (go_at_call 188;refine C188'.out.mono ?_;rintro e w2 ⟨rfl,h2⟩)
 have c17:=h2.out.1.c17
 rw[show ((p.first (b0.toNat % 16) x).meta b1.toNat).ex=zx from HZX.out.symm] at c17
 have F2:=zH (h1.out.2.trans h2.out.2)
 have T2:=zH (HT.out.fr F2.out (by omega) (by omega))
 go_upto_if 21 with fail
 go_cut [5] from 21 to 25 (fun _ wr=>Hid (∃p3:Pr,PrAt pb tb tf tc T p3 wr∧Fr (Eq pb) w wr∧HdOk p p3 (b0.toNat % 16) dim ps b1.toNat∧r2=T.drop p3.pos∧p3.bv=.slice none 0 0))
 case first =>
  cases zx with
  | false =>
   have HR:Hid (∃p3:Pr,PrAt pb tb tf tc T p3 w2∧Fr (Eq pb) w w2∧HdOk p p3 (b0.toNat % 16) dim ps b1.toNat∧r2=T.drop p3.pos∧p3.bv=.slice none 0 0):=by
    have hE:=HE.out
    unfold ExtP at hE
    rw[if_neg (by decide)] at hE
    obtain⟨rfl,rfl,rfl⟩:=hE
    exact⟨_,h2.out.1,F2.out,hd_two H0.out hx7,HR1.out,H0.out.bv⟩
   go_wp2_with fail
   go_meet
   exact HR.out
  | true =>
   have hE:=HE.out
   unfold ExtP at hE
   rw[if_pos rfl] at hE
   obtain⟨b2,hb2,hdm,hps⟩:=hE
   obtain⟨f1,f2⟩:=drop_cons (HR1.out.symm.trans hb2)
   have C189:=zH (ext189 h2.out.1 T2.out hp3 ⟨H0.out.hz,H0.out.hm,H0.out.dims⟩ f1)
   have HBB:=zH (⟨hdm,hps,f2⟩:_∧_∧_)
   clear hb2 hdm hps f1 f2
   go_wp2_with (go_at_call 189;refine C189.out.mono ?_;rintro e w3 ⟨rfl,h3⟩)
   have HR:Hid (∃p3:Pr,PrAt pb tb tf tc T p3 w3∧Fr (Eq pb) w w3∧HdOk p p3 (b0.toNat % 16) dim ps b1.toNat∧r2=T.drop p3.pos∧p3.bv=.slice none 0 0):=by
    obtain⟨g1,g2,g3⟩:=HBB.out
    rw[g1,g2]
    exact⟨_,h3.out.1,F2.out.trans h3.out.2,hd_ext b2.toNat_lt hx7,g3,H0.out.bv⟩
   go_meet
   exact HR.out
 case rest =>
  obtain⟨p3,h3,f3,k3,l3,v3⟩:=hcut.out
  have c15:=h3.c15
  rw[k3.si,←HZS.out] at c15
  have H3:=zH (⟨h3,f3,k3,l3,v3⟩:_∧_∧_∧_∧_)
  clear h3 f3 k3 l3 v3 hcut c17
  go_upto_if 30 with fail
  go_cut [6] from 30 to 34 (fun _ wr=>Hid (∃p4:Pr,PrAt pb tb tf tc T p4 wr∧Fr (Eq pb) w wr∧HdOk p p4 (b0.toNat % 16) dim ps b1.toNat∧r3=T.drop p4.pos∧p4.bv=.slice none 0 0))
  case first =>
   cases zs with
   | false =>
    have HR:Hid (∃p4:Pr,PrAt pb tb tf tc T p4 wc∧Fr (Eq pb) w wc∧HdOk p p4 (b0.toNat % 16) dim ps b1.toNat∧r3=T.drop p4.pos∧p4.bv=.slice none 0 0):=by
     have hS:=HS.out
     unfold SizeP at hS
     rw[if_neg (by decide)] at hS
     subst hS
     exact⟨p3,H3.out⟩
    go_wp2_with fail
    go_meet
    exact HR.out
   | true =>
    have hS:=HS.out
    unfold SizeP at hS
    rw[if_pos rfl] at hS
    obtain⟨z,hu,hz⟩:=hS
    rw[H3.out.2.2.2.1] at hu
    have C190:=zH (size190 H3.out.1 hu hz)
    clear hu hz
    go_wp2_with (go_at_call 190;refine C190.out.mono ?_;rintro e w4 ⟨q,⟨rfl,h4⟩,h5⟩;have H5:=zH h5;clear h5)
    have HR:Hid (∃p4:Pr,PrAt pb tb tf tc T p4 w4∧Fr (Eq pb) w w4∧HdOk p p4 (b0.toNat % 16) dim ps b1.toNat∧r3=T.drop p4.pos∧p4.bv=.slice none 0 0):=by
     obtain⟨g1,g2,g3,g4,g5⟩:=H3.out
     exact⟨_,h4.out.1,g2.trans h4.out.2,g3.pos q p3.bv,H5.out.2.2,g5⟩
    go_meet
    exact HR.out
  case rest =>
   obtain⟨p4,h4,f4,k4,l4,v4⟩:=hcut.out
   have c14:=h4.c14
   rw[k4.bb,←HZB.out] at c14
   have H4:=zH (⟨h4,f4,k4,l4,v4⟩:_∧_∧_∧_∧_)
   clear h4 f4 k4 l4 v4 hcut c15
   go_upto_if 39 with fail
   go_cut [7] from 39 to 43 (fun _ wr=>Hid (∃p5:Pr,PrAt pb tb tf tc T p5 wr∧Fr (Eq pb) w wr∧HdOk p p5 (b0.toNat % 16) dim ps b1.toNat∧l'=T.drop p5.pos∧BoxOk p5 ps.length w.heap.size wr))
   case first =>
    cases zb with
    | false =>
     have HR:Hid (∃p5:Pr,PrAt pb tb tf tc T p5 wc∧Fr (Eq pb) w wc∧HdOk p p5 (b0.toNat % 16) dim ps b1.toNat∧l'=T.drop p5.pos∧BoxOk p5 ps.length w.heap.size wc):=by
      have hB:=HB.out
      unfold BoxP at hB
      rw[if_neg (by decide)] at hB
      subst hB
      obtain⟨g1,g2,g3,g4,g5⟩:=H4.out
      refine⟨p4,g1,g2,g3,g4,fun hbb=>?_⟩
      rw[g3.bb,←HZB.out] at hbb
      exact absurd hbb (by decide)
     go_wp2_with fail
     go_meet
     exact HR.out
    | true =>
     have hB:=HB.out
     unfold BoxP at hB
     rw[if_pos rfl] at hB
     obtain⟨ds,hr,hd,hbd⟩:=hB
     rw[H4.out.2.2.2.1] at hr
     have C191:=zH (box191 H4.out.1 (Nat.lt_of_lt_of_le htw H4.out.2.1.size) H4.out.2.2.1.sc.dims H4.out.2.2.1.sc.hi H4.out.2.2.1.sc.lo H4.out.2.2.2.2 hr hd)
     have HBB:=zH (⟨hd,hbd⟩:_∧_)
     clear hr hd hbd
     go_wp2_with (go_at_call 191;refine C191.out.mono ?_;rintro e w5 ⟨q,g,cc,⟨rfl,h5⟩,h6⟩)
     have HR:Hid (∃p5:Pr,PrAt pb tb tf tc T p5 w5∧Fr (Eq pb) w w5∧HdOk p p5 (b0.toNat % 16) dim ps b1.toNat∧l'=T.drop p5.pos∧BoxOk p5 ps.length w.heap.size w5):=by
      obtain⟨g1,g2,g3,g4,g5⟩:=H4.out
      exact⟨_,h5.out.1,g2.trans h5.out.2,g3.pos q _,h6.out.2.2.1,fun _=>⟨g,cc,ds,rfl,HBB.out.1,own_le h6.out.2.2.2 g2.size,HBB.out.2⟩⟩
     go_meet
     exact HR.out
   case rest =>
    have HF:=zH hcut.out
    clear hcut
    go_wp2_with fail
    go_ret
    obtain⟨p5,a1,a2,a3,a4,a5⟩:=HF.out
    exact⟨rfl,p5,a1,a2,a3,a4,a5⟩
end Go.Proofs.YtnjjgbcmjnfijaaGreatDoor
