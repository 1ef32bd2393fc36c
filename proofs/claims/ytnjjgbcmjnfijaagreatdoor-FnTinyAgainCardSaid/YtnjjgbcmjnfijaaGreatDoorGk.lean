/- Trees of the reference: made anew, points and lines. No condition. -/
import Derived.Test.YtnjjgbcmjnfijaaGreatDoorGi
import Derived.Test.YtnjjgbcmjnfijaaGreatDoorR4
namespace Go.Proofs.YtnjjgbcmjnfijaaGreatDoor
set_option maxRecDepth 100000
set_option maxHeartbeats 8000000
open Go.RowKit
theorem width37(d:Nat)(hd:d≤3)(w:World):Calls Tryz.prog 37 #[.int .i64 d] w fun e w'=>e=.returned (.int .i64 (wd d:Nat))∧w=w':=by
 have hd':d=0∨d=1∨d=2∨d=3:=by omega
 rcases hd' with rfl|rfl|rfl|rfl
 ·exact width37_0 w
 ·exact width37_1 w
 ·exact width37_2 w
 ·exact width37_3 w
theorem run_append_zero(a:Option Addr)(c:Nat)(h:a=none→c=0)(w:World):(Builtin.append_ #[24,24] 24 #[.slice none 0 0,.slice a 0 c]).run Tryz.prog w=.ok (.slice none 0 0) w:=by
 obtain⟨i0,hi0,hz0,hz1,hz2⟩:=info_parts info40
 cases a with
 | none =>
  have:=h rfl
  subst this
  exact run_append_owned_none (w:=w) w.heap.size 24 24 40 i0 1 Tryz.underlying24 hi0 (.slice none 0 0) 0 [] (World.ownsRow_nil _ _ _ _)
 | some ad =>
  have hl:(loadCells ad 0).run Tryz.prog w=.ok #[] w:=by simpa using run_loadCells_list (P:=Tryz.prog) w ad [] (by simp)
  simp[Builtin.append_,run_underlying Tryz.underlying24,sizeOf,typeInfo,hi0,Builtin.lenOf,Builtin.firstCells,hl]
theorem nw2_eq{d dn L:Nat}{ns:List Nat}{ks:List G}(h:L=ns.length / wd dn*wd dn):.mk 2 dn (ns.take L) []=nw (d+1) (.mk 2 dn ns ks):=by
 unfold nw
 rw[show kdN 2=2 from rfl,if_pos (.inr rfl),if_neg (by decide),Int.toNat_natCast,←h]
theorem wrap_quo{N W:Nat}(hN:N≤30000)(hW:2≤W)(hW4:W≤4):wrap64 ((N:Int) / (W:Int))=((N / W:Nat):Int):=by
 have hd:W=2∨W=3∨W=4:=by omega
 rcases hd with rfl|rfl|rfl<;>simp[wrap64]<;>omega
theorem quo_nat{N W q:Nat}(hN:N≤30000)(hW:2≤W)(hW4:W≤4)(hq:q=N / W)(t:TypeId)(w1:World):(binOp .quo t (.int .i64 N) (.int .i64 W)).run Tryz.prog w1=.ok (.int .i64 q) w1:=by
 subst hq
 have hd:W=2∨W=3∨W=4:=by omega
 rcases hd with rfl|rfl|rfl<;>simp[binOp,go_sem]<;>simp[IntKind.wrap,IntKind.bits,IntKind.signed]<;>omega
theorem nw1_eq{d dn L:Nat}{ns:List Nat}{ks:List G}(h:L=min (ns.length / wd dn) 1*wd dn):.mk 1 dn (ns.take L) []=nw (d+1) (.mk 1 dn ns ks):=by
 unfold nw
 rw[show kdN 1=1 from rfl,if_pos (.inl rfl),if_pos rfl,Int.toNat_natCast,←h]
theorem new19_leaf2(d:Nat)(P:Nat→Prop)(w:World)(dm:Int)(n m:Value)(g:G)(h:GAt (d+1) P w [.int .i64 2,.int .i64 dm,n,m] g):Calls Tryz.prog 19 #[gv 2 dm n m] w (NewPost (d+1) g w):=by
 obtain⟨k',dm',na,N,nc,ka,M,kc,ns,ks,rfl,e,hN,hM,hNc,hMc,hN3,hM4,hk0,hk15,hd0,hd3,hNS,hK⟩:=h.parts
 simp only[List.cons.injEq,Value.int.injEq,true_and,and_true] at e
 obtain⟨e1,e2,e3,e4⟩:=e
 subst e1 e2 e3 e4
 obtain⟨dn,hdn⟩:∃dn:Nat,dm=(dn:Int):=⟨dm.toNat,by omega⟩
 subst hdn
 have e3:=and_3 (a:=dn) (by omega)
 obtain⟨s0,f0,b0,b1,b2⟩:=foW_cells w 2 dn dn (.slice na N nc) (.slice ka M kc)
 have H0:=zH (FoAt.new d w 2 dn dn (.slice na N nc) (.slice ka M kc))
 obtain⟨w0,hw0⟩:∃w0,w0=foW w 2 dn dn (.slice na N nc) (.slice ka M kc):=⟨_,rfl⟩
 rw[←hw0] at s0 f0 b0 b1 b2 H0
 have HW0:=zH hw0
 have HNS:=zH hNS
 have HNA:Hid (na=none→nc=0):=fun e=>by
  obtain⟨_,a',cap,e1,_,h3,_⟩:=HNS.out
  injection e1 with e1 _ e2
  rw[e2]
  exact (h3 (e1.symm.trans e)).2
 have HN:=zH hN
 obtain⟨i0,hi0,hz0,hz1,hz2⟩:=info_parts info40
 obtain⟨p0,p1,p2,p3⟩:=bx_cells b0
 obtain⟨o0,o1,o2,o3,of⟩:=g_cells (b:=w.heap.size+1+1) b2
 have C36:Hid (Calls Tryz.prog 36 #[.int .i64 2] w0 fun e w'=>e=.returned (.bool true)∧w0=w'):=leaf36 2 w0
 obtain⟨W,hW⟩:∃W,W=wd dn:=⟨_,rfl⟩
 have C37:Hid (∀w1,Calls Tryz.prog 37 #[.int .i64 dn] w1 fun e w'=>e=.returned (.int .i64 W)∧w'=w1):=fun w1=>(width37 dn (by omega) w1).mono (fun e w' h=>⟨by rw[hW];exact h.1,h.2.symm⟩)
 have hW2:2≤W∧W≤4:=by rw[hW];exact wd_pos dn
 have HW:=zH hW
 obtain⟨q,hq⟩:∃q,q=N / W:=⟨_,rfl⟩
 have hqW:q*W≤N:=by rw[hq];exact Nat.div_mul_le_self _ _
 have hqN:q≤N:=by rw[hq];exact Nat.div_le_self _ _
 have ediv:∀t w1,(binOp .quo t (.int .i64 N) (.int .i64 W)).run Tryz.prog w1=.ok (.int .i64 q) w1:=fun t w1=>quo_nat (by omega) (by omega) (by omega) hq t w1
 have HQ:=zH hq
 clear h hNS hK hw0 hN hM f0 b0 b1 b2 hW hq
 unfold gv
 go_enter Tryz.func19,Tryz.ntmps19
 go_upto_region 2 with fail
 unfold foW at HW0
 rw[←HW0.out]
 go_upto_region 5 with (go_at_call 36;refine C36.out.mono ?_;rintro e w' ⟨rfl,rfl⟩)
 go_quiet ((go_at_call 37;exact Calls.quiet_of_same (C37.out _)))
 go_upto_region 8 with fail
 rename_i nq K hK
 have ewr:wrap64 ((N:Int) / (W:Int))=(q:Int):=by
  have h1:=wrap_quo (N:=N) (W:=W) hN3 hW2.1 hW2.2
  rw[HQ.out]
  exact h1
 rw[ewr]
 clear ewr ediv C36
 obtain⟨L,hL⟩:∃L,L=q*W:=⟨_,rfl⟩
 have H1:=zH (H0.out.run ((Fr.refl _ w0).drewN nq))
 obtain⟨w1,hw1⟩:∃w1,w1=w0.drewN nq:=⟨_,rfl⟩
 rw[←hw1] at H1 ⊢
 have FW1:Hid (ZF (foW w 2 dn dn (.slice na N nc) (.slice ka M kc)) w1):=by
  show Fr _ _ _
  rw[hw1,HW0.out]
  exact (Fr.refl _ _).drewN nq
 clear hw1 H0 p0 p1 p2 p3 o0 o1 o2 o3 of HW0 s0
 obtain⟨p0,p1,p2,p3⟩:=bx_cells H1.out.box
 obtain⟨o0,o1,o2,o3,of⟩:=g_cells (b:=w.heap.size+1+1) H1.out.o
 have emul:IntKind.i64.wrap ((q:Int)*(W:Int))=(L:Int):=by
  have h1:(q:Int)*(W:Int)=((q*W:Nat):Int):=by simp
  rw[h1,←hL]
  simp[IntKind.wrap,IntKind.bits,IntKind.signed]
  omega
 have hqc:(q:Int)*(W:Int)=(L:Int):=by rw[hL];simp
 have hqa:(0:Int)≤(q:Int)*(W:Int):=by rw[hqc];omega
 have hqb:(q:Int)*(W:Int)≤(nc:Int):=by rw[hqc];omega
 have hqt:((q:Int)*(W:Int)).toNat=L:=by rw[hqc];omega
 clear hqc
 have hL0:(0:Int)≤(L:Int):=by omega
 have hLN:(L:Int)≤(nc:Int):=by omega
 have hLN2:(L:Int)≤(N:Int):=by omega
 rcases Nat.eq_zero_or_pos L with hz|hz
 ·have hqW0:(q:Int)*(W:Int)=0:=by rw[show (q:Int)*(W:Int)=((q*W:Nat):Int) by simp,←hL,hz];rfl
  have HQL:Hid (L=ns.length / wd dn*wd dn):=by show _=_;rw[hL,HQ.out,HW.out,HN.out]
  have HL2:Hid (ns.take L=[]):=by show _=_;rw[hz];rfl
  clear hqa hqb hqt emul hL
  have ez0:IntKind.i64.wrap 0=0:=by decide
  have hnc0:(0:Int)≤(nc:Int):=by omega
  have hap:=run_append_zero na nc HNA.out
  cases na with
  | none =>
   go_region_law (first|(go_simp;go_at_call 37;refine (C37.out _).mono ?_;rintro e w' ⟨rfl,rfl⟩))
   all_goals
    obtain⟨w8,hw8⟩:∃w8,w8=(w1.setCell ⟨w.heap.size+1+1,2,none⟩ (.slice none 0 0)).drew:=⟨_,rfl⟩
    have HS8:Hid (FoAt d w #[.int .i64 2,.int .i64 dn,.slice none N nc,.slice ka M kc] 2 dn (.slice none 0 0) [] (w.heap.size+3) 0 (.slice none 0 0) [] w8):=by rw[hw8];exact H1.out.run (((Fr.refl _ w1).same H1.out.o 2 _ rfl).drew)
    rw[←hw8]
    clear hw8 o0 o1 o2 o3 of p0 p1 p2 p3
    obtain⟨o0,o1,o2,o3,of⟩:=g_cells (b:=w.heap.size+1+1) HS8.out.o
    obtain⟨r0,r1,r2,r3,rf⟩:=g_cells (b:=w.heap.size+1) HS8.out.res
    have hfin:=zH (HS8.out.newp (Fr.refl _ w8) (fr4 w8 (w.heap.size+1) (.int .i64 2) (.int .i64 dn) (.slice none 0 0) (.slice none 0 0)) (HS8.out.gat (by decide) (by decide) hd0 hd3 (Nat.zero_le _) (Nat.zero_le _)) (by have h:=nw2_eq (d:=d) (ks:=ks) HQL.out;rw[HL2.out] at h;exact h))
    go_wp2_with fail
    exact bodyPost_ret (v:=.agg #[.int .i64 2,.int .i64 dn,.slice none 0 0,.slice none 0 0]) (by simp[results,Tryz.f19,go_sem,r0,r1,r2,r3]) rfl hfin.out
  | some ad =>
   go_region_law (first|(go_simp;go_at_call 37;refine (C37.out _).mono ?_;rintro e w' ⟨rfl,rfl⟩))
   all_goals
    obtain⟨w8,hw8⟩:∃w8,w8=(w1.setCell ⟨w.heap.size+1+1,2,none⟩ (.slice none 0 0)).drew:=⟨_,rfl⟩
    have HS8:Hid (FoAt d w #[.int .i64 2,.int .i64 dn,.slice (some ad) N nc,.slice ka M kc] 2 dn (.slice none 0 0) [] (w.heap.size+3) 0 (.slice none 0 0) [] w8):=by rw[hw8];exact H1.out.run (((Fr.refl _ w1).same H1.out.o 2 _ rfl).drew)
    rw[←hw8]
    clear hw8 o0 o1 o2 o3 of p0 p1 p2 p3
    obtain⟨o0,o1,o2,o3,of⟩:=g_cells (b:=w.heap.size+1+1) HS8.out.o
    obtain⟨r0,r1,r2,r3,rf⟩:=g_cells (b:=w.heap.size+1) HS8.out.res
    have hfin:=zH (HS8.out.newp (Fr.refl _ w8) (fr4 w8 (w.heap.size+1) (.int .i64 2) (.int .i64 dn) (.slice none 0 0) (.slice none 0 0)) (HS8.out.gat (by decide) (by decide) hd0 hd3 (Nat.zero_le _) (Nat.zero_le _)) (by have h:=nw2_eq (d:=d) (ks:=ks) HQL.out;rw[HL2.out] at h;exact h))
    go_wp2_with fail
    exact bodyPost_ret (v:=.agg #[.int .i64 2,.int .i64 dn,.slice none 0 0,.slice none 0 0]) (by simp[results,Tryz.f19,go_sem,r0,r1,r2,r3]) rfl hfin.out
 ·obtain⟨b,o,rfl,hcell⟩:∃b o,na=some ⟨b,o,none⟩∧∀j u,((ns.take L).map flv)[j]?=some u→w.cell? ⟨b,o+j,none⟩=some u:=by
   obtain⟨_,a',cap,e,_,_,h4⟩:=HNS.out
   injection e with e1 _ _
   have hn0:0 < ns.length:=by have:=HN.out;omega
   obtain⟨b,o,e2,_,hc⟩:=h4 hn0
   refine⟨b,o,e1.trans e2,fun j u hj=>hc j u ?_⟩
   rw[List.map_take] at hj
   have:=List.getElem?_take (l:=ns.map flv) (i:=L) (j:=j)
   rw[this] at hj
   split at hj
   ·exact hj
   ·cases hj
  have HL1:Hid (((ns.take L).map flv).length=L*1):=by show _=_;rw[List.length_map,List.length_take,←HN.out];omega
  have HNW:Hid (∀j u,((ns.take L).map flv)[j]?=some u→w1.drew.cell? ((⟨b,o,none⟩:Addr).add j)=some u):=fun j u hj=>by
   have e:(⟨b,o,none⟩:Addr).add j=⟨b,o+j,none⟩:=by cases j<;>simp[Addr.add]
   rw[e]
   exact H1.out.fr.cell (hcell j u hj) (by simp)
  have K63:Hid (0+L≤maxLen):=by show _≤_;unfold maxLen;omega
  have KB:Hid ((0+L)*8≤140737488355328):=by show _≤_;omega
  have HF1:Hid (ZF (foW w 2 dn dn (.slice (some ⟨b,o,none⟩) N nc) (.slice ka M kc)) w1.drew):=FW1.out.drew
  have HL2:Hid (L=(ns.take L).length):=by show _=_;rw[List.length_take,←HN.out];omega
  have HQL:Hid (L=ns.length / wd dn*wd dn):=by show _=_;rw[hL,HQ.out,HW.out,HN.out]
  clear hcell hL
  go_region_law (first|(go_simp;go_at_call 37;refine (C37.out _).mono ?_;rintro e w' ⟨rfl,rfl⟩)|(refine step_append_lies _ (by rfl) _ _ _ (by rfl) w1.drew.heap.size 40 i0 (.float .f64 0) 1 8 Tryz.underlying24 hi0 hz0 hz1 hz2 rfl (by decide) _ 0 [] (by rfl) (World.ownsRow_nil _ _ _ _) ⟨b,o,none⟩ L nc ((ns.take L).map flv) (by first|rfl|(rw[←hqt];rfl)|simp[hqt]) HL1.out HNW.out (all_one _) hz K63.out KB.out (Nat.le_refl _) _ rfl ?_;intro g6 cap6 w7 hown hgrow hat hlt7;simp only[Nat.zero_add,List.nil_append] at hown ⊢;have OW:=zH hown;have FW:Hid (ZF w1.drew w7):=(Fr.refl _ _).grown hgrow (fun k hk=>by cases hk);clear hown hgrow hat;obtain⟨o0,o1,o2,o3,of⟩:=g_cells (b:=w.heap.size+1+1) ((FW.out.block _ (zG H1.out.o).1 (fun h=>h)).trans H1.out.o)))
  all_goals
   have HS:=zH (FoAt.start (d:=d) (k:=2) (dm:=dn) (c:=dn) (nv0:=.slice (some ⟨b,o,none⟩) N nc) (kv0:=.slice ka M kc) (ns:=ns.take L) HF1.out FW.out (n:=L) HL2.out OW.out)
   obtain⟨w8,hw8⟩:∃w8,w8=w7.setCell ⟨w.heap.size+1+1,2,none⟩ (.slice (some ⟨g6,0,none⟩) L cap6):=⟨_,rfl⟩
   have HS8:Hid (FoAt d w #[.int .i64 2,.int .i64 dn,.slice (some ⟨b,o,none⟩) N nc,.slice ka M kc] 2 dn (.slice (some ⟨g6,0,none⟩) L cap6) (ns.take L) w7.heap.size 0 (.slice none 0 0) [] w8):=by rw[hw8];exact HS.out
   rw[←hw8]
   clear hw8 HS o0 o1 o2 o3 of p0 p1 p2 p3
   obtain⟨o0,o1,o2,o3,of⟩:=g_cells (b:=w.heap.size+1+1) HS8.out.o
   obtain⟨r0,r1,r2,r3,rf⟩:=g_cells (b:=w.heap.size+1) HS8.out.res
   have hfin:=zH (HS8.out.newp (Fr.refl _ w8) (fr4 w8 (w.heap.size+1) (.int .i64 2) (.int .i64 dn) (.slice (some ⟨g6,0,none⟩) L cap6) (.slice none 0 0)) (HS8.out.gat (by decide) (by decide) hd0 hd3 (by rw[←HL2.out];omega) (by omega)) (nw2_eq (d:=d) (ks:=ks) HQL.out))
   go_wp2_with fail
   exact bodyPost_ret (v:=.agg #[.int .i64 2,.int .i64 dn,.slice (some ⟨g6,0,none⟩) L cap6,.slice none 0 0]) (by simp[results,Tryz.f19,go_sem,r0,r1,r2,r3]) rfl hfin.out
open Go.RowKit
theorem new19_leaf1(d:Nat)(P:Nat→Prop)(w:World)(dm:Int)(n m:Value)(g:G)(h:GAt (d+1) P w [.int .i64 1,.int .i64 dm,n,m] g):Calls Tryz.prog 19 #[gv 1 dm n m] w (NewPost (d+1) g w):=by
 obtain⟨k',dm',na,N,nc,ka,M,kc,ns,ks,rfl,e,hN,hM,hNc,hMc,hN3,hM4,hk0,hk15,hd0,hd3,hNS,hK⟩:=h.parts
 simp only[List.cons.injEq,Value.int.injEq,true_and,and_true] at e
 obtain⟨e1,e2,e3,e4⟩:=e
 subst e1 e2 e3 e4
 obtain⟨dn,hdn⟩:∃dn:Nat,dm=(dn:Int):=⟨dm.toNat,by omega⟩
 subst hdn
 have e3:=and_3 (a:=dn) (by omega)
 obtain⟨s0,f0,b0,b1,b2⟩:=foW_cells w 1 dn dn (.slice na N nc) (.slice ka M kc)
 have H0:=zH (FoAt.new d w 1 dn dn (.slice na N nc) (.slice ka M kc))
 obtain⟨w0,hw0⟩:∃w0,w0=foW w 1 dn dn (.slice na N nc) (.slice ka M kc):=⟨_,rfl⟩
 rw[←hw0] at s0 f0 b0 b1 b2 H0
 have HW0:=zH hw0
 have HNS:=zH hNS
 have HNA:Hid (na=none→nc=0):=fun e=>by
  obtain⟨_,a',cap,e1,_,h3,_⟩:=HNS.out
  injection e1 with e1 _ e2
  rw[e2]
  exact (h3 (e1.symm.trans e)).2
 have HN:=zH hN
 obtain⟨i0,hi0,hz0,hz1,hz2⟩:=info_parts info40
 obtain⟨p0,p1,p2,p3⟩:=bx_cells b0
 obtain⟨o0,o1,o2,o3,of⟩:=g_cells (b:=w.heap.size+1+1) b2
 have C36:Hid (Calls Tryz.prog 36 #[.int .i64 1] w0 fun e w'=>e=.returned (.bool true)∧w0=w'):=leaf36 1 w0
 obtain⟨W,hW⟩:∃W,W=wd dn:=⟨_,rfl⟩
 have C37:Hid (∀w1,Calls Tryz.prog 37 #[.int .i64 dn] w1 fun e w'=>e=.returned (.int .i64 W)∧w'=w1):=fun w1=>(width37 dn (by omega) w1).mono (fun e w' h=>⟨by rw[hW];exact h.1,h.2.symm⟩)
 have hW2:2≤W∧W≤4:=by rw[hW];exact wd_pos dn
 have HW:=zH hW
 obtain⟨q,hq⟩:∃q,q=N / W:=⟨_,rfl⟩
 have hqW:q*W≤N:=by rw[hq];exact Nat.div_mul_le_self _ _
 have hqN:q≤N:=by rw[hq];exact Nat.div_le_self _ _
 have ediv:∀t w1,(binOp .quo t (.int .i64 N) (.int .i64 W)).run Tryz.prog w1=.ok (.int .i64 q) w1:=fun t w1=>quo_nat (by omega) (by omega) (by omega) hq t w1
 have HQ:=zH hq
 clear h hNS hK hw0 hN hM f0 b0 b1 b2 hW hq
 unfold gv
 go_enter Tryz.func19,Tryz.ntmps19
 go_upto_region 2 with fail
 unfold foW at HW0
 rw[←HW0.out]
 go_upto_region 5 with (go_at_call 36;refine C36.out.mono ?_;rintro e w' ⟨rfl,rfl⟩)
 go_quiet ((go_at_call 37;exact Calls.quiet_of_same (C37.out _)))
 go_upto_region 7 with fail
 rename_i nq K hK
 have ewr:wrap64 ((N:Int) / (W:Int))=(q:Int):=by
  have h1:=wrap_quo (N:=N) (W:=W) hN3 hW2.1 hW2.2
  rw[HQ.out]
  exact h1
 rw[ewr]
 clear ewr ediv C36
 go_upto_region 8 with fail
 obtain⟨q1,hq1⟩:∃q1,q1=min q 1:=⟨_,rfl⟩
 have hmin:min (q:Int) 1=(q1:Int):=by rw[hq1];omega
 rw[hmin]
 have HQ1:=zH hq1
 have hqW1:q1*W≤N:=Nat.le_trans (Nat.mul_le_mul_right W (by omega)) hqW
 clear hmin hq1
 obtain⟨L,hL⟩:∃L,L=q1*W:=⟨_,rfl⟩
 have H1:=zH (H0.out.run ((Fr.refl _ w0).drewN nq))
 obtain⟨w1,hw1⟩:∃w1,w1=w0.drewN nq:=⟨_,rfl⟩
 rw[←hw1] at H1 ⊢
 have FW1:Hid (ZF (foW w 1 dn dn (.slice na N nc) (.slice ka M kc)) w1):=by
  show Fr _ _ _
  rw[hw1,HW0.out]
  exact (Fr.refl _ _).drewN nq
 clear hw1 H0 p0 p1 p2 p3 o0 o1 o2 o3 of HW0 s0
 obtain⟨p0,p1,p2,p3⟩:=bx_cells H1.out.box
 obtain⟨o0,o1,o2,o3,of⟩:=g_cells (b:=w.heap.size+1+1) H1.out.o
 have emul:IntKind.i64.wrap ((q1:Int)*(W:Int))=(L:Int):=by
  have h1:(q1:Int)*(W:Int)=((q1*W:Nat):Int):=by simp
  rw[h1,←hL]
  simp[IntKind.wrap,IntKind.bits,IntKind.signed]
  omega
 have hqc:(q1:Int)*(W:Int)=(L:Int):=by rw[hL];simp
 have hqa:(0:Int)≤(q1:Int)*(W:Int):=by rw[hqc];omega
 have hqb:(q1:Int)*(W:Int)≤(nc:Int):=by rw[hqc];omega
 have hqt:((q1:Int)*(W:Int)).toNat=L:=by rw[hqc];omega
 clear hqc
 have hL0:(0:Int)≤(L:Int):=by omega
 have hLN:(L:Int)≤(nc:Int):=by omega
 have hLN2:(L:Int)≤(N:Int):=by omega
 rcases Nat.eq_zero_or_pos L with hz|hz
 ·have hqW0:(q1:Int)*(W:Int)=0:=by rw[show (q1:Int)*(W:Int)=((q1*W:Nat):Int) by simp,←hL,hz];rfl
  have HQL:Hid (L=min (ns.length / wd dn) 1*wd dn):=by show _=_;rw[hL,HQ1.out,HQ.out,HW.out,HN.out]
  have HL2:Hid (ns.take L=[]):=by show _=_;rw[hz];rfl
  clear hqa hqb hqt emul hL
  have ez0:IntKind.i64.wrap 0=0:=by decide
  have hnc0:(0:Int)≤(nc:Int):=by omega
  have hap:=run_append_zero na nc HNA.out
  cases na with
  | none =>
   go_region_law (first|(go_simp;go_at_call 37;refine (C37.out _).mono ?_;rintro e w' ⟨rfl,rfl⟩))
   all_goals
    obtain⟨w8,hw8⟩:∃w8,w8=(w1.setCell ⟨w.heap.size+1+1,2,none⟩ (.slice none 0 0)).drew:=⟨_,rfl⟩
    have HS8:Hid (FoAt d w #[.int .i64 1,.int .i64 dn,.slice none N nc,.slice ka M kc] 1 dn (.slice none 0 0) [] (w.heap.size+3) 0 (.slice none 0 0) [] w8):=by rw[hw8];exact H1.out.run (((Fr.refl _ w1).same H1.out.o 2 _ rfl).drew)
    rw[←hw8]
    clear hw8 o0 o1 o2 o3 of p0 p1 p2 p3
    obtain⟨o0,o1,o2,o3,of⟩:=g_cells (b:=w.heap.size+1+1) HS8.out.o
    obtain⟨r0,r1,r2,r3,rf⟩:=g_cells (b:=w.heap.size+1) HS8.out.res
    have hfin:=zH (HS8.out.newp (Fr.refl _ w8) (fr4 w8 (w.heap.size+1) (.int .i64 1) (.int .i64 dn) (.slice none 0 0) (.slice none 0 0)) (HS8.out.gat (by decide) (by decide) hd0 hd3 (Nat.zero_le _) (Nat.zero_le _)) (by have h:=nw1_eq (d:=d) (ks:=ks) HQL.out;rw[HL2.out] at h;exact h))
    go_wp2_with fail
    exact bodyPost_ret (v:=.agg #[.int .i64 1,.int .i64 dn,.slice none 0 0,.slice none 0 0]) (by simp[results,Tryz.f19,go_sem,r0,r1,r2,r3]) rfl hfin.out
  | some ad =>
   go_region_law (first|(go_simp;go_at_call 37;refine (C37.out _).mono ?_;rintro e w' ⟨rfl,rfl⟩))
   all_goals
    obtain⟨w8,hw8⟩:∃w8,w8=(w1.setCell ⟨w.heap.size+1+1,2,none⟩ (.slice none 0 0)).drew:=⟨_,rfl⟩
    have HS8:Hid (FoAt d w #[.int .i64 1,.int .i64 dn,.slice (some ad) N nc,.slice ka M kc] 1 dn (.slice none 0 0) [] (w.heap.size+3) 0 (.slice none 0 0) [] w8):=by rw[hw8];exact H1.out.run (((Fr.refl _ w1).same H1.out.o 2 _ rfl).drew)
    rw[←hw8]
    clear hw8 o0 o1 o2 o3 of p0 p1 p2 p3
    obtain⟨o0,o1,o2,o3,of⟩:=g_cells (b:=w.heap.size+1+1) HS8.out.o
    obtain⟨r0,r1,r2,r3,rf⟩:=g_cells (b:=w.heap.size+1) HS8.out.res
    have hfin:=zH (HS8.out.newp (Fr.refl _ w8) (fr4 w8 (w.heap.size+1) (.int .i64 1) (.int .i64 dn) (.slice none 0 0) (.slice none 0 0)) (HS8.out.gat (by decide) (by decide) hd0 hd3 (Nat.zero_le _) (Nat.zero_le _)) (by have h:=nw1_eq (d:=d) (ks:=ks) HQL.out;rw[HL2.out] at h;exact h))
    go_wp2_with fail
    exact bodyPost_ret (v:=.agg #[.int .i64 1,.int .i64 dn,.slice none 0 0,.slice none 0 0]) (by simp[results,Tryz.f19,go_sem,r0,r1,r2,r3]) rfl hfin.out
 ·obtain⟨b,o,rfl,hcell⟩:∃b o,na=some ⟨b,o,none⟩∧∀j u,((ns.take L).map flv)[j]?=some u→w.cell? ⟨b,o+j,none⟩=some u:=by
   obtain⟨_,a',cap,e,_,_,h4⟩:=HNS.out
   injection e with e1 _ _
   have hn0:0 < ns.length:=by have:=HN.out;omega
   obtain⟨b,o,e2,_,hc⟩:=h4 hn0
   refine⟨b,o,e1.trans e2,fun j u hj=>hc j u ?_⟩
   rw[List.map_take] at hj
   have:=List.getElem?_take (l:=ns.map flv) (i:=L) (j:=j)
   rw[this] at hj
   split at hj
   ·exact hj
   ·cases hj
  have HL1:Hid (((ns.take L).map flv).length=L*1):=by show _=_;rw[List.length_map,List.length_take,←HN.out];omega
  have HNW:Hid (∀j u,((ns.take L).map flv)[j]?=some u→w1.drew.cell? ((⟨b,o,none⟩:Addr).add j)=some u):=fun j u hj=>by
   have e:(⟨b,o,none⟩:Addr).add j=⟨b,o+j,none⟩:=by cases j<;>simp[Addr.add]
   rw[e]
   exact H1.out.fr.cell (hcell j u hj) (by simp)
  have K63:Hid (0+L≤maxLen):=by show _≤_;unfold maxLen;omega
  have KB:Hid ((0+L)*8≤140737488355328):=by show _≤_;omega
  have HF1:Hid (ZF (foW w 1 dn dn (.slice (some ⟨b,o,none⟩) N nc) (.slice ka M kc)) w1.drew):=FW1.out.drew
  have HL2:Hid (L=(ns.take L).length):=by show _=_;rw[List.length_take,←HN.out];omega
  have HQL:Hid (L=min (ns.length / wd dn) 1*wd dn):=by show _=_;rw[hL,HQ1.out,HQ.out,HW.out,HN.out]
  clear hcell hL
  go_region_law (first|(go_simp;go_at_call 37;refine (C37.out _).mono ?_;rintro e w' ⟨rfl,rfl⟩)|(refine step_append_lies _ (by rfl) _ _ _ (by rfl) w1.drew.heap.size 40 i0 (.float .f64 0) 1 8 Tryz.underlying24 hi0 hz0 hz1 hz2 rfl (by decide) _ 0 [] (by rfl) (World.ownsRow_nil _ _ _ _) ⟨b,o,none⟩ L nc ((ns.take L).map flv) (by first|rfl|(rw[←hqt];rfl)|simp[hqt]) HL1.out HNW.out (all_one _) hz K63.out KB.out (Nat.le_refl _) _ rfl ?_;intro g6 cap6 w7 hown hgrow hat hlt7;simp only[Nat.zero_add,List.nil_append] at hown ⊢;have OW:=zH hown;have FW:Hid (ZF w1.drew w7):=(Fr.refl _ _).grown hgrow (fun k hk=>by cases hk);clear hown hgrow hat;obtain⟨o0,o1,o2,o3,of⟩:=g_cells (b:=w.heap.size+1+1) ((FW.out.block _ (zG H1.out.o).1 (fun h=>h)).trans H1.out.o)))
  all_goals
   have HS:=zH (FoAt.start (d:=d) (k:=1) (dm:=dn) (c:=dn) (nv0:=.slice (some ⟨b,o,none⟩) N nc) (kv0:=.slice ka M kc) (ns:=ns.take L) HF1.out FW.out (n:=L) HL2.out OW.out)
   obtain⟨w8,hw8⟩:∃w8,w8=w7.setCell ⟨w.heap.size+1+1,2,none⟩ (.slice (some ⟨g6,0,none⟩) L cap6):=⟨_,rfl⟩
   have HS8:Hid (FoAt d w #[.int .i64 1,.int .i64 dn,.slice (some ⟨b,o,none⟩) N nc,.slice ka M kc] 1 dn (.slice (some ⟨g6,0,none⟩) L cap6) (ns.take L) w7.heap.size 0 (.slice none 0 0) [] w8):=by rw[hw8];exact HS.out
   rw[←hw8]
   clear hw8 HS o0 o1 o2 o3 of p0 p1 p2 p3
   obtain⟨o0,o1,o2,o3,of⟩:=g_cells (b:=w.heap.size+1+1) HS8.out.o
   obtain⟨r0,r1,r2,r3,rf⟩:=g_cells (b:=w.heap.size+1) HS8.out.res
   have hfin:=zH (HS8.out.newp (Fr.refl _ w8) (fr4 w8 (w.heap.size+1) (.int .i64 1) (.int .i64 dn) (.slice (some ⟨g6,0,none⟩) L cap6) (.slice none 0 0)) (HS8.out.gat (by decide) (by decide) hd0 hd3 (by rw[←HL2.out];omega) (by omega)) (nw1_eq (d:=d) (ks:=ks) HQL.out))
   go_wp2_with fail
   exact bodyPost_ret (v:=.agg #[.int .i64 1,.int .i64 dn,.slice (some ⟨g6,0,none⟩) L cap6,.slice none 0 0]) (by simp[results,Tryz.f19,go_sem,r0,r1,r2,r3]) rfl hfin.out
end Go.Proofs.YtnjjgbcmjnfijaaGreatDoor
