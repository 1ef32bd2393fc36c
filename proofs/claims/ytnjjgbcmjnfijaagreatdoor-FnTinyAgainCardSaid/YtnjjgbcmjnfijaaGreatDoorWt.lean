/- The package's writer of tiny bytes: its options, and a geometry's type of coordinates. No condition. -/
import Derived.Test.YtnjjgbcmjnfijaaGreatDoorWf
import Derived.Test.YtnjjgbcmjnfijaaGreatDoorRk
namespace Go.Proofs.YtnjjgbcmjnfijaaGreatDoor
set_option maxRecDepth 100000
set_option maxHeartbeats 1000000
open Go.RowKit
theorem info149:(Tryz.prog.info? 149).map (fun i=>(i.zero,i.size,i.bytes))=some (some .nilFunc,1,8):=by kernel_rfl
theorem cl95(w:World):Calls Tryz.prog 95 #[] w fun e w'=>e=.returned (.func (.func 177) #[] #[])∧w=w':=by
 go_enter Tryz.func95,Tryz.ntmps95
 go_wp2_with fail
 go_ret
 exact⟨rfl,rfl⟩
theorem cl91(z:Int)(w:World):Calls Tryz.prog 91 #[.int .i64 z] w fun e w'=>e=.returned (.func (.func 173) #[] #[.pointer (some ⟨w.heap.size,0,none⟩)])∧w'=w.alloc (.cells #[.int .i64 z] 3):=by
 go_enter Tryz.func91,Tryz.ntmps91
 go_wp2_with fail
 go_ret
 exact⟨rfl,rfl⟩
theorem cl92(z:Int)(w:World):Calls Tryz.prog 92 #[.int .i64 z] w fun e w'=>e=.returned (.func (.func 174) #[] #[.pointer (some ⟨w.heap.size,0,none⟩)])∧w'=w.alloc (.cells #[.int .i64 z] 3):=by
 go_enter Tryz.func92,Tryz.ntmps92
 go_wp2_with fail
 go_ret
 exact⟨rfl,rfl⟩
theorem cl177(b:Nat)(w:World)(v:Value)(hv:w.cell? ⟨b,4,none⟩=some v)(hf:w.frozen? ⟨b,4,none⟩=false):Calls Tryz.prog 177 #[.pointer (some ⟨b,0,none⟩)] w fun e w'=>e=.returned (.tuple #[])∧w'=w.setCell ⟨b,4,none⟩ (.bool true):=by
 go_enter Tryz.func177,Tryz.ntmps177
 go_wp2_with fail
 go_end0
 exact⟨rfl,rfl⟩
theorem cl173(a b:Nat)(z:Int)(w:World)(v:Value)(ha:w.cell? ⟨a,0,none⟩=some (.int .i64 z))(hv:w.cell? ⟨b,0,none⟩=some v)(hf:w.frozen? ⟨b,0,none⟩=false):Calls Tryz.prog 173 #[.pointer (some ⟨b,0,none⟩),.pointer (some ⟨a,0,none⟩)] w fun e w'=>e=.returned (.tuple #[])∧w'=w.setCell ⟨b,0,none⟩ (.int .i64 z):=by
 go_enter Tryz.func173,Tryz.ntmps173
 go_wp2_with fail
 go_end0
 exact⟨rfl,rfl⟩
theorem cl174(a b:Nat)(z:Int)(w:World)(v:Value)(ha:w.cell? ⟨a,0,none⟩=some (.int .i64 z))(hv:w.cell? ⟨b,1,none⟩=some v)(hf:w.frozen? ⟨b,1,none⟩=false):Calls Tryz.prog 174 #[.pointer (some ⟨b,0,none⟩),.pointer (some ⟨a,0,none⟩)] w fun e w'=>e=.returned (.tuple #[])∧w'=w.setCell ⟨b,1,none⟩ (.int .i64 z):=by
 go_enter Tryz.func174,Tryz.ntmps174
 go_wp2_with fail
 go_end0
 exact⟨rfl,rfl⟩
def opV (p:Int) (b:Bool) (z m:Int):Value:=.agg #[.int .i64 p,.bool b,.bool b,.int .i64 z,.int .i64 m,.bool false,.bool false,.bool true,.slice none 0 0]
theorem op_cells{w1:World}{g:Nat}{p z m:Int}{b:Bool}(h:w1.heap[g]?=some (.cells #[.int .i64 p,.bool b,.bool b,.int .i64 z,.int .i64 m,.bool false,.bool false,.bool true,.slice none 0 0] 37 (0,0))):
  w1.cell? ⟨g,0,none⟩=some (.int .i64 p)∧w1.cell? ⟨g,1,none⟩=some (.bool b)∧w1.cell? ⟨g,2,none⟩=some (.bool b)∧w1.cell? ⟨g,3,none⟩=some (.int .i64 z)∧w1.cell? ⟨g,4,none⟩=some (.int .i64 m)∧w1.cell? ⟨g,5,none⟩=some (.bool false)∧w1.cell? ⟨g,6,none⟩=some (.bool false)∧w1.cell? ⟨g,7,none⟩=some (.bool true)∧w1.cell? ⟨g,8,none⟩=some (.slice none 0 0):=by
 refine⟨?_,?_,?_,?_,?_,?_,?_,?_,?_⟩<;>(rw[zC h];rfl)
theorem op_new{w0:World}(f:Value):∀j u,[f][j]?=some u→(w0.alloc (.cells #[f] 149)).cell? ((⟨w0.heap.size,0,none⟩:Addr).add j)=some u:=fun j u hu=>by
 have hj:j=0:=by
  have:=(zL hu).1
  simpa using this
 subst hj
 show World.cell? _ ⟨w0.heap.size,0,none⟩=_
 rw[zC (zN w0 _)]
 exact hu
theorem opt30_0(p z m:Int)(w:World):Calls Tryz.prog 30 #[opV p false z m] w fun e w'=>∃g c:Nat,e=.returned (.slice (some ⟨g,0,none⟩) 1 c)∧Hid (1≤c∧ZF w w'∧w'.cell? ⟨g,0,none⟩=some (.func (.func 177) #[] #[])):=by
 obtain⟨i0,hi0,hz0,hz1,hz2⟩:=info_parts info149
 obtain⟨w0,hw0⟩:∃w0,w0=w.alloc (.cells #[.int .i64 p,.bool false,.bool false,.int .i64 z,.int .i64 m,.bool false,.bool false,.bool true,.slice none 0 0] 37):=⟨_,rfl⟩
 have b0:=zN w (.cells #[.int .i64 p,.bool false,.bool false,.int .i64 z,.int .i64 m,.bool false,.bool false,.bool true,.slice none 0 0] 37)
 rw[←hw0] at b0
 have F0:Hid (ZF w w0):=by show Fr _ _ _;rw[hw0];exact (Fr.refl _ w).alloc _
 obtain⟨_,q1,q2,_,_,q5,q6,q7,q8⟩:=op_cells b0
 have HW:=zH hw0
 have H0:=zH b0
 have C95:Hid (∀w,Calls Tryz.prog 95 #[] w fun e w'=>e=.returned (.func (.func 177) #[] #[])∧w=w'):=cl95
 obtain⟨wA,hwA⟩:∃wA,wA=w0.alloc (.cells #[.func (.func 177) #[] #[]] 149):=⟨_,rfl⟩
 have FA:Hid (ZF w wA):=by show Fr _ _ _;rw[hwA];exact F0.out.alloc _
 have HN:Hid (∀j u,[.func (.func 177) #[] #[]][j]?=some u→wA.cell? ((⟨w0.heap.size,0,none⟩:Addr).add j)=some u):=by show ∀j u,_;rw[hwA];exact op_new (.func (.func 177) #[] #[])
 have H1:Hid (∀u∈([.func (.func 177) #[] #[]]:List Value),u.oneCell'=true):=fun u hu=>by simp at hu;subst hu;rfl
 have K5:Hid (w.heap.size≤wA.heap.size):=FA.out.size
 have HWA:=zH hwA
 have BA:Hid (wA.heap[w.heap.size]?=some (.cells #[.int .i64 p,.bool false,.bool false,.int .i64 z,.int .i64 m,.bool false,.bool false,.bool true,.slice none 0 0] 37 (0,0))):=by
  show _=_
  rw[hwA,Below.heap_alloc w0 _ _ (zG b0).1]
  exact b0
 have hlt:w.heap.size < wA.heap.size:=(zG BA.out).1
 clear hw0 b0 hwA
 unfold opV
 go_enter Tryz.func30,Tryz.ntmps30
 go_upto_region 1 with fail
 rw[←HW.out]
 go_upto_region 11 with fail
 go_upto_region 12 with (first|(go_at_call 95;refine (C95.out _).mono ?_;rintro e w1 ⟨rfl,rfl⟩)|(at_builtin;rw[←HWA.out];refine wpList_append_own_at _ rfl _ _ 69 rfl w.heap.size 149 i0 .nilFunc 1 8 Tryz.underlying69 hi0 hz0 hz1 hz2 rfl (by decide) _ 0 [] rfl (World.ownsRow_nil _ _ _ _) ⟨w0.heap.size,0,none⟩ 1 1 [.func (.func 177) #[] #[]] rfl rfl HN.out H1.out (by decide) (by decide) K5.out ?_;intro v' w7 hown1 hgrow1 _ hat;obtain⟨g6,cap6,rfl,hg6,hc6⟩:=own_capE hown1 (by omega);have O7:=zH hown1;have F7:Hid (ZF wA w7):=((Fr.refl _ wA).grown hgrow1 (fun k hk=>by cases hk));clear hown1 hgrow1 hat))
 obtain⟨_,_,_,_,_,_,_,_,q8⟩:=op_cells ((F7.out.block _ hlt (fun h=>h)).trans BA.out)
 go_wp2_with fail
 go_ret
 refine⟨g6,cap6,rfl,?_⟩
 refine⟨hc6,FA.out.trans F7.out,?_⟩
 have:=World.ownsRow.cellAt O7.out 0 (by decide)
 exact this
theorem one_fn(f:Value)(hf:f.oneCell'=true):∀u∈[f],u.oneCell'=true:=fun u hu=>by simp at hu;subst hu;exact hf
theorem opt30_1(p z m:Int)(w:World):Calls Tryz.prog 30 #[opV p true z m] w fun e w'=>∃g c a b:Nat,e=.returned (.slice (some ⟨g,0,none⟩) 3 c)∧Hid (3≤c∧ZF w w'∧w'.cell? ⟨g,0,none⟩=some (.func (.func 173) #[] #[.pointer (some ⟨a,0,none⟩)])∧w'.cell? ⟨g,1,none⟩=some (.func (.func 174) #[] #[.pointer (some ⟨b,0,none⟩)])∧w'.cell? ⟨g,2,none⟩=some (.func (.func 177) #[] #[])∧w'.cell? ⟨a,0,none⟩=some (.int .i64 z)∧w'.cell? ⟨b,0,none⟩=some (.int .i64 m)):=by
 obtain⟨i0,hi0,hz0,hz1,hz2⟩:=info_parts info149
 obtain⟨w0,hw0⟩:∃w0,w0=w.alloc (.cells #[.int .i64 p,.bool true,.bool true,.int .i64 z,.int .i64 m,.bool false,.bool false,.bool true,.slice none 0 0] 37):=⟨_,rfl⟩
 have b0:=zN w (.cells #[.int .i64 p,.bool true,.bool true,.int .i64 z,.int .i64 m,.bool false,.bool false,.bool true,.slice none 0 0] 37)
 rw[←hw0] at b0
 have F0:Hid (ZF w w0):=by show Fr _ _ _;rw[hw0];exact (Fr.refl _ w).alloc _
 obtain⟨_,q1,_,q3,_⟩:=op_cells b0
 have hlt:=(zG b0).1
 have HW:=zH hw0
 have B0:=zH b0
 clear hw0 b0
 obtain⟨wB1,hwB⟩:∃wB,wB=w0.alloc (.cells #[.int .i64 z] 3):=⟨_,rfl⟩
 have FB1:Hid (ZF w0 wB1):=by show Fr _ _ _;rw[hwB];exact (Fr.refl _ w0).alloc _
 have ZB1:Hid (wB1.cell? ⟨w0.heap.size,0,none⟩=some (.int .i64 z)):=by show _=_;rw[hwB,zC (zN w0 _)];rfl
 have C91:Hid (Calls Tryz.prog 91 #[.int .i64 z] w0 fun e w'=>e=.returned (.func (.func 173) #[] #[.pointer (some ⟨w0.heap.size,0,none⟩)])∧wB1=w'):=(cl91 z w0).mono (fun _ _ h=>⟨h.1,by rw[h.2,hwB]⟩)
 obtain⟨wA1,hwA⟩:∃wA,wA=wB1.alloc (.cells #[(.func (.func 173) #[] #[.pointer (some ⟨w0.heap.size,0,none⟩)])] 149):=⟨_,rfl⟩
 have FX1:Hid (ZF w0 wA1):=by show Fr _ _ _;rw[hwA];exact FB1.out.alloc _
 have FY1:Hid (ZF wB1 wA1):=by show Fr _ _ _;rw[hwA];exact (Fr.refl _ wB1).alloc _
 have FA1:Hid (ZF w0 wA1):=(Fr.refl _ w0).trans FX1.out
 have HN1:Hid (∀j u,[(.func (.func 173) #[] #[.pointer (some ⟨w0.heap.size,0,none⟩)])][j]?=some u→wA1.cell? ((⟨wB1.heap.size,0,none⟩:Addr).add j)=some u):=by show ∀j u,_;rw[hwA];exact op_new _
 have HO1:=zH (one_fn (.func (.func 173) #[] #[.pointer (some ⟨w0.heap.size,0,none⟩)]) rfl)
 have K1:Hid (w0.heap.size≤wA1.heap.size):=FA1.out.size
 have HWA1:=zH hwA
 clear hwA hwB
 unfold opV
 go_enter Tryz.func30,Tryz.ntmps30
 go_upto_region 1 with fail
 rw[←HW.out]
 go_upto_region 3 with fail
 go_upto_region 4 with (first|(go_at_call 91;refine C91.out.mono ?_;rintro e we ⟨rfl,rfl⟩)|(at_builtin;rw[←HWA1.out];refine wpList_append_own_at _ rfl _ _ 69 rfl w0.heap.size 149 i0 .nilFunc 1 8 Tryz.underlying69 hi0 hz0 hz1 hz2 rfl (by decide) _ 0 [] rfl (World.ownsRow_nil _ _ _ _) ⟨wB1.heap.size,0,none⟩ 1 1 [(.func (.func 173) #[] #[.pointer (some ⟨w0.heap.size,0,none⟩)])] rfl rfl HN1.out HO1.out (by decide) (by decide) K1.out ?_;intro v' w71 hown1 hgrow1 _ hat;obtain⟨g1,k1,rfl,hg1,hc1⟩:=own_capE hown1 (by omega);have O1:=zH hown1;have HG1:=zH hgrow1;have HT1:=zH hat;have FG1:Hid (ZF w0 w71):=(FA1.out.grown hgrow1 (fun k hk=>by cases hk));clear hown1 hgrow1 hat))
 clear q1 q3
 obtain⟨_,_,q2,_,q4,_⟩:=op_cells ((FG1.out.block _ hlt (fun h=>h)).trans B0.out)
 obtain⟨wB2,hwB⟩:∃wB,wB=w71.alloc (.cells #[.int .i64 m] 3):=⟨_,rfl⟩
 have FB2:Hid (ZF w71 wB2):=by show Fr _ _ _;rw[hwB];exact (Fr.refl _ w71).alloc _
 have ZB2:Hid (wB2.cell? ⟨w71.heap.size,0,none⟩=some (.int .i64 m)):=by show _=_;rw[hwB,zC (zN w71 _)];rfl
 have C92:Hid (Calls Tryz.prog 92 #[.int .i64 m] w71 fun e w'=>e=.returned (.func (.func 174) #[] #[.pointer (some ⟨w71.heap.size,0,none⟩)])∧wB2=w'):=(cl92 m w71).mono (fun _ _ h=>⟨h.1,by rw[h.2,hwB]⟩)
 obtain⟨wA2,hwA⟩:∃wA,wA=wB2.alloc (.cells #[(.func (.func 174) #[] #[.pointer (some ⟨w71.heap.size,0,none⟩)])] 149):=⟨_,rfl⟩
 have FX2:Hid (ZF w71 wA2):=by show Fr _ _ _;rw[hwA];exact FB2.out.alloc _
 have FY2:Hid (ZF wB2 wA2):=by show Fr _ _ _;rw[hwA];exact (Fr.refl _ wB2).alloc _
 have FA2:Hid (ZF w0 wA2):=FG1.out.trans FX2.out
 have HN2:Hid (∀j u,[(.func (.func 174) #[] #[.pointer (some ⟨w71.heap.size,0,none⟩)])][j]?=some u→wA2.cell? ((⟨wB2.heap.size,0,none⟩:Addr).add j)=some u):=by show ∀j u,_;rw[hwA];exact op_new _
 have HO2:=zH (one_fn (.func (.func 174) #[] #[.pointer (some ⟨w71.heap.size,0,none⟩)]) rfl)
 have K2:Hid (w0.heap.size≤wA2.heap.size):=FA2.out.size
 have HWA2:=zH hwA
 have P2:Hid (wA2.ownsRow w0.heap.size 149 1 (.slice (some ⟨g1,0,none⟩) 1 k1) 1 [(.func (.func 173) #[] #[.pointer (some ⟨w0.heap.size,0,none⟩)])]):=ownsRow_but O1.out FX2.out (fun _ _ h=>h)
 clear hwA hwB
 go_upto_region 5 with fail
 go_upto_region 6 with (first|(go_at_call 92;refine C92.out.mono ?_;rintro e we ⟨rfl,rfl⟩)|(at_builtin;rw[←HWA2.out];refine wpList_append_own_at _ rfl _ _ 69 rfl w0.heap.size 149 i0 .nilFunc 1 8 Tryz.underlying69 hi0 hz0 hz1 hz2 rfl (by decide) _ 1 [(.func (.func 173) #[] #[.pointer (some ⟨w0.heap.size,0,none⟩)])] rfl P2.out ⟨wB2.heap.size,0,none⟩ 1 1 [(.func (.func 174) #[] #[.pointer (some ⟨w71.heap.size,0,none⟩)])] rfl rfl HN2.out HO2.out (by decide) (by decide) K2.out ?_;intro v' w72 hown1 hgrow1 _ hat;obtain⟨g2,k2,rfl,hg2,hc2⟩:=own_capE hown1 (by omega);have O2:=zH hown1;have HG2:=zH hgrow1;have HT2:=zH hat;have FG2:Hid (ZF w0 w72):=(FA2.out.grown hgrow1 (fun k hk=>.inl (by have hk:some g1=some k:=hk;injection hk with hk;omega)));clear hown1 hgrow1 hat))
 clear q2 q4
 obtain⟨_,_,_,_,_,q5,q6,q7,_⟩:=op_cells ((FG2.out.block _ hlt (fun h=>h)).trans B0.out)
 have FB3:Hid (ZF w72 w72):=Fr.refl _ _
 have C95:=zH cl95
 obtain⟨wA3,hwA⟩:∃wA,wA=w72.alloc (.cells #[(.func (.func 177) #[] #[])] 149):=⟨_,rfl⟩
 have FX3:Hid (ZF w72 wA3):=by show Fr _ _ _;rw[hwA];exact FB3.out.alloc _
 have FY3:Hid (ZF w72 wA3):=by show Fr _ _ _;rw[hwA];exact (Fr.refl _ w72).alloc _
 have FA3:Hid (ZF w0 wA3):=FG2.out.trans FX3.out
 have HN3:Hid (∀j u,[(.func (.func 177) #[] #[])][j]?=some u→wA3.cell? ((⟨w72.heap.size,0,none⟩:Addr).add j)=some u):=by show ∀j u,_;rw[hwA];exact op_new _
 have HO3:=zH (one_fn (.func (.func 177) #[] #[]) rfl)
 have K3:Hid (w0.heap.size≤wA3.heap.size):=FA3.out.size
 have HWA3:=zH hwA
 have P3:Hid (wA3.ownsRow w0.heap.size 149 1 (.slice (some ⟨g2,0,none⟩) 2 k2) 2 [(.func (.func 173) #[] #[.pointer (some ⟨w0.heap.size,0,none⟩)]),(.func (.func 174) #[] #[.pointer (some ⟨w71.heap.size,0,none⟩)])]):=ownsRow_but O2.out FX3.out (fun _ _ h=>h)
 clear hwA
 go_upto_region 11 with fail
 go_upto_region 12 with (first|(go_at_call 95;refine (C95.out _).mono ?_;rintro e we ⟨rfl,rfl⟩)|(at_builtin;rw[←HWA3.out];refine wpList_append_own_at _ rfl _ _ 69 rfl w0.heap.size 149 i0 .nilFunc 1 8 Tryz.underlying69 hi0 hz0 hz1 hz2 rfl (by decide) _ 2 [(.func (.func 173) #[] #[.pointer (some ⟨w0.heap.size,0,none⟩)]),(.func (.func 174) #[] #[.pointer (some ⟨w71.heap.size,0,none⟩)])] rfl P3.out ⟨w72.heap.size,0,none⟩ 1 1 [(.func (.func 177) #[] #[])] rfl rfl HN3.out HO3.out (by decide) (by decide) K3.out ?_;intro v' w73 hown1 hgrow1 _ hat;obtain⟨g3,k3,rfl,hg3,hc3⟩:=own_capE hown1 (by omega);have O3:=zH hown1;have HG3:=zH hgrow1;have HT3:=zH hat;have FG3:Hid (ZF w0 w73):=(FA3.out.grown hgrow1 (fun k hk=>.inl (by have hk:some g2=some k:=hk;injection hk with hk;omega)));clear hown1 hgrow1 hat))
 clear q5 q6 q7
 obtain⟨_,_,_,_,_,_,_,_,q8⟩:=op_cells ((FG3.out.block _ hlt (fun h=>h)).trans B0.out)
 go_wp2_with fail
 go_ret
 refine⟨g3,k3,w0.heap.size,w71.heap.size,rfl,?_⟩
 have o:=O3.out
 refine⟨hc3,F0.out.trans FG3.out,World.ownsRow.cellAt o 0 (by decide),World.ownsRow.cellAt o 1 (by decide),World.ownsRow.cellAt o 2 (by decide),?_,?_⟩
 ·have e1:g1=wA1.heap.size:=by
   rcases HT1.out with h|h
   ·cases h
   ·have h:some g1=some wA1.heap.size:=h
    injection h
  have e2:g2=g1∨g2=wA2.heap.size:=HT2.out.imp (fun h=>by have h:some g2=some g1:=h;injection h) (fun h=>by have h:some g2=some wA2.heap.size:=h;injection h)
  have hz:=ZB1.out
  have l1:=World.block_lt_of_cell? wB1 _ hz
  have l1:w0.heap.size < wB1.heap.size:=l1
  have l2:=FY1.out.size
  have l3:=FX2.out.size
  have hz:=FY1.out.cell hz (fun h=>h)
  have fr1:ZF wA1 w71:=(Fr.refl _ wA1).grown HG1.out (fun k hk=>by cases hk)
  have fr2:Fr (Eq g1) wA2 w72:=(Fr.refl _ wA2).grown HG2.out (fun k hk=>.inr (by have hk:some g1=some k:=hk;injection hk))
  have fr3:Fr (Eq g2) wA3 w73:=(Fr.refl _ wA3).grown HG3.out (fun k hk=>.inr (by have hk:some g2=some k:=hk;injection hk))
  have l4:=fr1.size
  have hz:=FX2.out.cell (fr1.cell hz (fun h=>h)) (fun h=>h)
  have hz:=FX3.out.cell (fr2.cell hz (fun h=>by have h:g1=w0.heap.size:=h;omega)) (fun h=>h)
  exact fr3.cell hz (fun h=>by have h:g2=w0.heap.size:=h;omega)
 ·have e2:g2=g1∨g2=wA2.heap.size:=HT2.out.imp (fun h=>by have h:some g2=some g1:=h;injection h) (fun h=>by have h:some g2=some wA2.heap.size:=h;injection h)
  have hz:=ZB2.out
  have l1:=World.block_lt_of_cell? wB2 _ hz
  have l1:w71.heap.size < wB2.heap.size:=l1
  have l2:=FY2.out.size
  have l5:=(O1.out.lt g1 rfl).2
  have hz:=FY2.out.cell hz (fun h=>h)
  have fr2:Fr (Eq g1) wA2 w72:=(Fr.refl _ wA2).grown HG2.out (fun k hk=>.inr (by have hk:some g1=some k:=hk;injection hk))
  have fr3:Fr (Eq g2) wA3 w73:=(Fr.refl _ wA3).grown HG3.out (fun k hk=>.inr (by have hk:some g2=some k:=hk;injection hk))
  have hz:=FX3.out.cell (fr2.cell hz (fun h=>by have h:g1=w71.heap.size:=h;omega)) (fun h=>h)
  exact fr3.cell hz (fun h=>by have h:g2=w71.heap.size:=h;omega)
theorem ct69_1{d hh:Nat}{s:Sh}{P:Nat→Prop}{w:World}(hg:GmE 1 (kId 1) d s P w hh):Calls Tryz.prog 69 #[.agg #[.int .i64 1,.iface 208 (.pointer (some ⟨hh,0,none⟩))]] w fun e w'=>e=.returned (.int .u8 d)∧ZF w w':=by
 obtain⟨_,cs,hb,hE⟩:=hg
 cases s with
 | two _=>exact hE.elim
 | three _=>exact hE.elim
 | one xs =>
 obtain⟨a1,a2,a3,a4,rfl,hE⟩:=hE
 have CA:Hid (∀w1,ZF w w1→Calls Tryz.prog 56 #[.agg #[.int .i64 1,.iface 208 (.pointer (some ⟨hh,0,none⟩))]] w1 fun e w'=>e=.returned (.agg #[.float .f64 a1,.float .f64 a2,.float .f64 a3,.float .f64 a4,.int .u8 d,.bool true])∧ZF w1 w'):=fun w1 f=>(ac56 a1 a2 a3 a4 d true hh w1 (f.cell (by rw[zC hb];rfl) (fun h=>h)) (f.cell (by rw[zC hb];rfl) (fun h=>h)) (f.cell (by rw[zC hb];rfl) (fun h=>h)) (f.cell (by rw[zC hb];rfl) (fun h=>h)) (f.cell (by rw[zC hb];rfl) (fun h=>h)) (f.cell (by rw[zC hb];rfl) (fun h=>h))).mono (fun e w' h=>⟨h.1,by rw[h.2];exact (Fr.refl _ _).alloc _ |>.alloc _ |>.alloc _⟩)
 have CB:Hid (∀w1,Calls Tryz.prog 132 #[.agg #[.float .f64 a1,.float .f64 a2,.float .f64 a3,.float .f64 a4,.int .u8 d,.bool true]] w1 fun e w'=>e=.returned (.int .u8 d)∧ZF w1 w'):=fun w1=>(ac132 a1 a2 a3 a4 d true w1).mono (fun e w' h=>⟨h.1,by rw[h.2];exact (Fr.refl _ _).alloc _⟩)
 clear hE hb
 go_enter Tryz.func69,Tryz.ntmps69
 go_upto_region 1 with fail
 have b0:=zN w (.cells #[.int .i64 1,.iface 208 (.pointer (some ⟨hh,0,none⟩))] 56)
 obtain⟨w0,hw0⟩:∃w0,w0=w.alloc (.cells #[.int .i64 1,.iface 208 (.pointer (some ⟨hh,0,none⟩))] 56):=⟨_,rfl⟩
 rw[←hw0] at b0 ⊢
 have F0:Hid (ZF w w0):=by show Fr _ _ _;rw[hw0];exact (Fr.refl _ w).alloc _
 obtain⟨q0,q1,_⟩:=lm_cells b0
 clear hw0 b0
 go_wp2_with (first|(go_at_call 56;(with_reducible refine (CA.out _ F0.out).mono ?_);rintro e w1 ⟨rfl,f1⟩;have F1:=zH (F0.out.trans f1);clear f1)|(go_at_call 132;(with_reducible refine (CB.out w1).mono ?_);rintro e w2 ⟨rfl,f2⟩;have F2:=zH (F1.out.trans f2);clear f2))
 go_ret
 exact⟨rfl,F2.out⟩
theorem ct69_2{d hh:Nat}{s:Sh}{P:Nat→Prop}{w:World}(hg:GmE 2 (kId 2) d s P w hh):Calls Tryz.prog 69 #[.agg #[.int .i64 2,.iface 211 (.pointer (some ⟨hh,0,none⟩))]] w fun e w'=>e=.returned (.int .u8 d)∧ZF w w':=by
 obtain⟨_,cs,hb,hE⟩:=hg
 cases s with
 | two _=>exact hE.elim
 | three _=>exact hE.elim
 | one xs =>
 obtain⟨g,o,n,c,rfl,hE⟩:=hE
 have CA:Hid (∀w1,ZF w w1→Calls Tryz.prog 58 #[.agg #[.int .i64 2,.iface 211 (.pointer (some ⟨hh,0,none⟩))]] w1 fun e w'=>e=.returned (.agg #[.int .u8 d,.slice (some ⟨g,o,none⟩) n c])∧ZF w1 w'):=fun w1 f=>(ac58 d g o n c hh w1 (f.cell (by rw[zC hb];rfl) (fun h=>h)) (f.cell (by rw[zC hb];rfl) (fun h=>h))).mono (fun e w' h=>⟨h.1,by rw[h.2];exact (Fr.refl _ _).alloc _ |>.alloc _ |>.alloc _⟩)
 have CB:Hid (∀w1,Calls Tryz.prog 151 #[.agg #[.int .u8 d,.slice (some ⟨g,o,none⟩) n c]] w1 fun e w'=>e=.returned (.int .u8 d)∧ZF w1 w'):=fun w1=>(ac151 d g o n c w1).mono (fun e w' h=>⟨h.1,by rw[h.2];exact (Fr.refl _ _).alloc _ |>.alloc _⟩)
 clear hE hb
 go_enter Tryz.func69,Tryz.ntmps69
 go_upto_region 1 with fail
 have b0:=zN w (.cells #[.int .i64 2,.iface 211 (.pointer (some ⟨hh,0,none⟩))] 56)
 obtain⟨w0,hw0⟩:∃w0,w0=w.alloc (.cells #[.int .i64 2,.iface 211 (.pointer (some ⟨hh,0,none⟩))] 56):=⟨_,rfl⟩
 rw[←hw0] at b0 ⊢
 have F0:Hid (ZF w w0):=by show Fr _ _ _;rw[hw0];exact (Fr.refl _ w).alloc _
 obtain⟨q0,q1,_⟩:=lm_cells b0
 clear hw0 b0
 go_wp2_with (first|(go_at_call 58;(with_reducible refine (CA.out _ F0.out).mono ?_);rintro e w1 ⟨rfl,f1⟩;have F1:=zH (F0.out.trans f1);clear f1)|(go_at_call 151;(with_reducible refine (CB.out w1).mono ?_);rintro e w2 ⟨rfl,f2⟩;have F2:=zH (F1.out.trans f2);clear f2))
 go_ret
 exact⟨rfl,F2.out⟩
theorem ct69_3{d hh:Nat}{s:Sh}{P:Nat→Prop}{w:World}(hg:GmE 3 (kId 3) d s P w hh):Calls Tryz.prog 69 #[.agg #[.int .i64 3,.iface 213 (.pointer (some ⟨hh,0,none⟩))]] w fun e w'=>e=.returned (.int .u8 d)∧ZF w w':=by
 obtain⟨_,cs,hb,hE⟩:=hg
 cases s with
 | one _=>exact hE.elim
 | three _=>exact hE.elim
 | two xs =>
 obtain⟨g,o,n,c,rfl,hE⟩:=hE
 have CA:Hid (∀w1,ZF w w1→Calls Tryz.prog 60 #[.agg #[.int .i64 3,.iface 213 (.pointer (some ⟨hh,0,none⟩))]] w1 fun e w'=>e=.returned (.agg #[.slice (some ⟨g,o,none⟩) n c,.int .u8 d])∧ZF w1 w'):=fun w1 f=>(ac60 d g o n c hh w1 (f.cell (by rw[zC hb];rfl) (fun h=>h)) (f.cell (by rw[zC hb];rfl) (fun h=>h))).mono (fun e w' h=>⟨h.1,by rw[h.2];exact (Fr.refl _ _).alloc _ |>.alloc _ |>.alloc _⟩)
 have CB:Hid (∀w1,Calls Tryz.prog 137 #[.agg #[.slice (some ⟨g,o,none⟩) n c,.int .u8 d]] w1 fun e w'=>e=.returned (.int .u8 d)∧ZF w1 w'):=fun w1=>(ac137 d g o n c w1).mono (fun e w' h=>⟨h.1,by rw[h.2];exact (Fr.refl _ _).alloc _⟩)
 clear hE hb
 go_enter Tryz.func69,Tryz.ntmps69
 go_upto_region 1 with fail
 have b0:=zN w (.cells #[.int .i64 3,.iface 213 (.pointer (some ⟨hh,0,none⟩))] 56)
 obtain⟨w0,hw0⟩:∃w0,w0=w.alloc (.cells #[.int .i64 3,.iface 213 (.pointer (some ⟨hh,0,none⟩))] 56):=⟨_,rfl⟩
 rw[←hw0] at b0 ⊢
 have F0:Hid (ZF w w0):=by show Fr _ _ _;rw[hw0];exact (Fr.refl _ w).alloc _
 obtain⟨q0,q1,_⟩:=lm_cells b0
 clear hw0 b0
 go_wp2_with (first|(go_at_call 60;(with_reducible refine (CA.out _ F0.out).mono ?_);rintro e w1 ⟨rfl,f1⟩;have F1:=zH (F0.out.trans f1);clear f1)|(go_at_call 137;(with_reducible refine (CB.out w1).mono ?_);rintro e w2 ⟨rfl,f2⟩;have F2:=zH (F1.out.trans f2);clear f2))
 go_ret
 exact⟨rfl,F2.out⟩
theorem ct69_4{d hh:Nat}{s:Sh}{P:Nat→Prop}{w:World}(hg:GmE 4 (kId 4) d s P w hh):Calls Tryz.prog 69 #[.agg #[.int .i64 4,.iface 215 (.pointer (some ⟨hh,0,none⟩))]] w fun e w'=>e=.returned (.int .u8 d)∧ZF w w':=by
 obtain⟨_,cs,hb,hE⟩:=hg
 cases s with
 | one _=>exact hE.elim
 | three _=>exact hE.elim
 | two xs =>
 obtain⟨g,o,n,c,rfl,hE⟩:=hE
 have CA:Hid (∀w1,ZF w w1→Calls Tryz.prog 62 #[.agg #[.int .i64 4,.iface 215 (.pointer (some ⟨hh,0,none⟩))]] w1 fun e w'=>e=.returned (.agg #[.slice (some ⟨g,o,none⟩) n c,.int .u8 d])∧ZF w1 w'):=fun w1 f=>(ac62 d g o n c hh w1 (f.cell (by rw[zC hb];rfl) (fun h=>h)) (f.cell (by rw[zC hb];rfl) (fun h=>h))).mono (fun e w' h=>⟨h.1,by rw[h.2];exact (Fr.refl _ _).alloc _ |>.alloc _ |>.alloc _⟩)
 have CB:Hid (∀w1,Calls Tryz.prog 139 #[.agg #[.slice (some ⟨g,o,none⟩) n c,.int .u8 d]] w1 fun e w'=>e=.returned (.int .u8 d)∧ZF w1 w'):=fun w1=>(ac139 d g o n c w1).mono (fun e w' h=>⟨h.1,by rw[h.2];exact (Fr.refl _ _).alloc _⟩)
 clear hE hb
 go_enter Tryz.func69,Tryz.ntmps69
 go_upto_region 1 with fail
 have b0:=zN w (.cells #[.int .i64 4,.iface 215 (.pointer (some ⟨hh,0,none⟩))] 56)
 obtain⟨w0,hw0⟩:∃w0,w0=w.alloc (.cells #[.int .i64 4,.iface 215 (.pointer (some ⟨hh,0,none⟩))] 56):=⟨_,rfl⟩
 rw[←hw0] at b0 ⊢
 have F0:Hid (ZF w w0):=by show Fr _ _ _;rw[hw0];exact (Fr.refl _ w).alloc _
 obtain⟨q0,q1,_⟩:=lm_cells b0
 clear hw0 b0
 go_wp2_with (first|(go_at_call 62;(with_reducible refine (CA.out _ F0.out).mono ?_);rintro e w1 ⟨rfl,f1⟩;have F1:=zH (F0.out.trans f1);clear f1)|(go_at_call 139;(with_reducible refine (CB.out w1).mono ?_);rintro e w2 ⟨rfl,f2⟩;have F2:=zH (F1.out.trans f2);clear f2))
 go_ret
 exact⟨rfl,F2.out⟩
theorem ct69_5{d hh:Nat}{s:Sh}{P:Nat→Prop}{w:World}(hg:GmE 5 (kId 5) d s P w hh):Calls Tryz.prog 69 #[.agg #[.int .i64 5,.iface 217 (.pointer (some ⟨hh,0,none⟩))]] w fun e w'=>e=.returned (.int .u8 d)∧ZF w w':=by
 obtain⟨_,cs,hb,hE⟩:=hg
 cases s with
 | one _=>exact hE.elim
 | three _=>exact hE.elim
 | two xs =>
 obtain⟨g,o,n,c,rfl,hE⟩:=hE
 have CA:Hid (∀w1,ZF w w1→Calls Tryz.prog 64 #[.agg #[.int .i64 5,.iface 217 (.pointer (some ⟨hh,0,none⟩))]] w1 fun e w'=>e=.returned (.agg #[.slice (some ⟨g,o,none⟩) n c,.int .u8 d])∧ZF w1 w'):=fun w1 f=>(ac64 d g o n c hh w1 (f.cell (by rw[zC hb];rfl) (fun h=>h)) (f.cell (by rw[zC hb];rfl) (fun h=>h))).mono (fun e w' h=>⟨h.1,by rw[h.2];exact (Fr.refl _ _).alloc _ |>.alloc _ |>.alloc _⟩)
 have CB:Hid (∀w1,Calls Tryz.prog 142 #[.agg #[.slice (some ⟨g,o,none⟩) n c,.int .u8 d]] w1 fun e w'=>e=.returned (.int .u8 d)∧ZF w1 w'):=fun w1=>(ac142 d g o n c w1).mono (fun e w' h=>⟨h.1,by rw[h.2];exact (Fr.refl _ _).alloc _⟩)
 clear hE hb
 go_enter Tryz.func69,Tryz.ntmps69
 go_upto_region 1 with fail
 have b0:=zN w (.cells #[.int .i64 5,.iface 217 (.pointer (some ⟨hh,0,none⟩))] 56)
 obtain⟨w0,hw0⟩:∃w0,w0=w.alloc (.cells #[.int .i64 5,.iface 217 (.pointer (some ⟨hh,0,none⟩))] 56):=⟨_,rfl⟩
 rw[←hw0] at b0 ⊢
 have F0:Hid (ZF w w0):=by show Fr _ _ _;rw[hw0];exact (Fr.refl _ w).alloc _
 obtain⟨q0,q1,_⟩:=lm_cells b0
 clear hw0 b0
 go_wp2_with (first|(go_at_call 64;(with_reducible refine (CA.out _ F0.out).mono ?_);rintro e w1 ⟨rfl,f1⟩;have F1:=zH (F0.out.trans f1);clear f1)|(go_at_call 142;(with_reducible refine (CB.out w1).mono ?_);rintro e w2 ⟨rfl,f2⟩;have F2:=zH (F1.out.trans f2);clear f2))
 go_ret
 exact⟨rfl,F2.out⟩
theorem ct69_6{d hh:Nat}{s:Sh}{P:Nat→Prop}{w:World}(hg:GmE 6 (kId 6) d s P w hh):Calls Tryz.prog 69 #[.agg #[.int .i64 6,.iface 219 (.pointer (some ⟨hh,0,none⟩))]] w fun e w'=>e=.returned (.int .u8 d)∧ZF w w':=by
 obtain⟨_,cs,hb,hE⟩:=hg
 cases s with
 | one _=>exact hE.elim
 | two _=>exact hE.elim
 | three xs =>
 obtain⟨g,o,n,c,rfl,hE⟩:=hE
 have CA:Hid (∀w1,ZF w w1→Calls Tryz.prog 66 #[.agg #[.int .i64 6,.iface 219 (.pointer (some ⟨hh,0,none⟩))]] w1 fun e w'=>e=.returned (.agg #[.slice (some ⟨g,o,none⟩) n c,.int .u8 d])∧ZF w1 w'):=fun w1 f=>(ac66 d g o n c hh w1 (f.cell (by rw[zC hb];rfl) (fun h=>h)) (f.cell (by rw[zC hb];rfl) (fun h=>h))).mono (fun e w' h=>⟨h.1,by rw[h.2];exact (Fr.refl _ _).alloc _ |>.alloc _ |>.alloc _⟩)
 have CB:Hid (∀w1,Calls Tryz.prog 145 #[.agg #[.slice (some ⟨g,o,none⟩) n c,.int .u8 d]] w1 fun e w'=>e=.returned (.int .u8 d)∧ZF w1 w'):=fun w1=>(ac145 d g o n c w1).mono (fun e w' h=>⟨h.1,by rw[h.2];exact (Fr.refl _ _).alloc _⟩)
 clear hE hb
 go_enter Tryz.func69,Tryz.ntmps69
 go_upto_region 1 with fail
 have b0:=zN w (.cells #[.int .i64 6,.iface 219 (.pointer (some ⟨hh,0,none⟩))] 56)
 obtain⟨w0,hw0⟩:∃w0,w0=w.alloc (.cells #[.int .i64 6,.iface 219 (.pointer (some ⟨hh,0,none⟩))] 56):=⟨_,rfl⟩
 rw[←hw0] at b0 ⊢
 have F0:Hid (ZF w w0):=by show Fr _ _ _;rw[hw0];exact (Fr.refl _ w).alloc _
 obtain⟨q0,q1,_⟩:=lm_cells b0
 clear hw0 b0
 go_wp2_with (first|(go_at_call 66;(with_reducible refine (CA.out _ F0.out).mono ?_);rintro e w1 ⟨rfl,f1⟩;have F1:=zH (F0.out.trans f1);clear f1)|(go_at_call 145;(with_reducible refine (CB.out w1).mono ?_);rintro e w2 ⟨rfl,f2⟩;have F2:=zH (F1.out.trans f2);clear f2))
 go_ret
 exact⟨rfl,F2.out⟩
theorem ct69{k d hh:Nat}(hk:1≤k∧k≤6){s:Sh}{P:Nat→Prop}{w:World}(hg:GmE k (kId k) d s P w hh):Calls Tryz.prog 69 #[.agg #[.int .i64 k,.iface (kTy k) (.pointer (some ⟨hh,0,none⟩))]] w fun e w'=>e=.returned (.int .u8 d)∧ZF w w':=by
 have hk6:k=1∨k=2∨k=3∨k=4∨k=5∨k=6:=by omega
 rcases hk6 with rfl|rfl|rfl|rfl|rfl|rfl
 ·exact ct69_1 hg
 ·exact ct69_2 hg
 ·exact ct69_3 hg
 ·exact ct69_4 hg
 ·exact ct69_5 hg
 ·exact ct69_6 hg
end Go.Proofs.YtnjjgbcmjnfijaaGreatDoor
