/- The package's writer of tiny bytes: a geometry. No condition. -/
import Derived.Test.YtnjjgbcmjnfijaaGreatDoorWn
namespace Go.Proofs.YtnjjgbcmjnfijaaGreatDoor
set_option maxRecDepth 100000
set_option maxHeartbeats 1000000
open Go.RowKit
theorem ad154{B wb:Nat}{q:Wt}{H C:List UInt8}{w:World}(h:WtAt B wb q H C w):Calls Tryz.prog 154 #[.pointer (some ⟨wb,0,none⟩)] w fun e w'=>e=.returned (.tuple #[])∧w=w':=by
 have c15:w.cell? ⟨wb,15,none⟩=some (.bool false):=h.c 15
 have c16:w.cell? ⟨wb,16,none⟩=some (.bool false):=h.c 16
 clear h
 go_enter Tryz.func154,Tryz.ntmps154
 go_wp2_with fail
 go_end0
 exact⟨rfl,rfl⟩
theorem wg74{B wb:Nat}{q:Wt}{H C:List UInt8}{w:World}(h:WtAt B wb q H C w){k d p z m x0 hh:Nat}(hk:1≤k∧k≤6){ps Q:List Int}(hq:WqOk q d ps p z m x0)(hrf:RfOk q.rf Q)(hQ:QOk ps Q)(hH:H.length≤900){s:Sh}(hg:GmE k (kId k) d s (fun b=>b < B) w hh)(hs:SOk k ps s)(hC:(C++bodyE k ps Q s).length≤10000000000000):
  Calls Tryz.prog 74 #[.pointer (some ⟨wb,0,none⟩),.agg #[.int .i64 k,.iface (kTy k) (.pointer (some ⟨hh,0,none⟩))]] w (KwPost B wb q (hdE H k p x0 q.ex) (C++bodyE k ps Q s) w):=by
 have C153:Hid (∀w1,ZF w w1→Calls Tryz.prog 153 #[.pointer (some ⟨wb,0,none⟩),.agg #[.int .i64 k,.iface (kTy k) (.pointer (some ⟨hh,0,none⟩))]] w1 (KwPost B wb q (hdE H k p x0 q.ex) (C++bodyE k ps Q s) w1)):=fun w1 f=>wg153 (h.keep f) hk hq hrf hQ hH (hg.kept (fun b _ hl=>f.block b hl (fun h=>h))) hs hC
 obtain⟨ty,hty⟩:∃ty,ty=kTy k:=⟨_,rfl⟩
 obtain⟨K,hK⟩:∃K:Int,K=(k:Int):=⟨_,rfl⟩
 obtain⟨H1,hH1⟩:∃H1,H1=hdE H k p x0 q.ex:=⟨_,rfl⟩
 obtain⟨C1,hC1⟩:∃C1,C1=C++bodyE k ps Q s:=⟨_,rfl⟩
 rw[←hty,←hK,←hH1,←hC1] at C153 ⊢
 clear h hk hq hrf hQ hH hg hs hC hty hK hH1 hC1
 have b0:=zN w (.cells #[.int .i64 K,.iface ty (.pointer (some ⟨hh,0,none⟩))] 56)
 obtain⟨w0,hw0⟩:∃w0,w0=w.alloc (.cells #[.int .i64 K,.iface ty (.pointer (some ⟨hh,0,none⟩))] 56):=⟨_,rfl⟩
 rw[←hw0] at b0
 have F0:Hid (ZF w w0):=by show Fr _ _ _;rw[hw0];exact (Fr.refl _ w).alloc _
 have HW:=zH hw0
 obtain⟨q0,q1,_⟩:=lm_cells b0
 clear hw0 b0
 go_enter Tryz.func74,Tryz.ntmps74
 go_upto_region 1 with fail
 rw[←HW.out]
 go_wp2_with (first|(go_at_call 153;(with_reducible refine (C153.out _ F0.out).mono ?_);rintro e w1 ⟨rfl,q1,hp⟩;have HA:=zH (ad154 hp.out.1))|(go_at_call 154;(with_reducible refine HA.out.mono ?_);rintro e w' ⟨rfl,rfl⟩))
 go_ret
 exact⟨rfl,q1,hp.out.1,(Ch.of F0.out).trans hp.out.2⟩
open Go.RowKit
theorem make22(n:Nat)(h:n≤20000000000000):∀w,(Instr.makeSlice 22 (.int .i64 0) (.int .i64 n)).run Tryz.prog w=.ok (.slice (some ⟨w.heap.size,0,none⟩) 0 n) (w.alloc (.cells (madeCells #[.int .u8 0] n) 5)):=by
 obtain⟨j0,hj0,jz0,jz1,jz2⟩:=info_parts info5
 intro w
 have:=run_make (P:=Tryz.prog) w 22 5 j0 (.int .u8 0) Tryz.underlying22 hj0 jz0 .i64 .i64 0 n (by omega) (by omega) (by rw[jz2];omega) (by omega)
 rw[this,jz1,Nat.mul_one,Int.toNat_natCast]
 rfl
theorem form76{B wb:Nat}{q:Wt}{H C:List UInt8}{w:World}(h:WtAt B wb q H C w)(hH:H.length≤1000)(hC:C.length≤10000000000000)(hH0:0 < H.length)(hC0:0 < C.length):
  Calls Tryz.prog 76 #[.pointer (some ⟨wb,0,none⟩)] w fun e w'=>∃g n c:Nat,e=.returned (.slice (some ⟨g,0,none⟩) n c)∧Hid (n=(H++C).length∧n≤c∧w.heap.size≤g∧TxAt g 0 (H++C) w'∧ZF w w'):=by
 obtain⟨i0,hi0,hz0,hz1,hz2⟩:=info_parts info5
 obtain⟨g1,k1,hv,_,_⟩:=own_capE h.hd hH0
 obtain⟨g2,k2,cv,_,_⟩:=own_capE h.ct hC0
 obtain⟨LH,hLH⟩:∃LH,LH=H.length:=⟨_,rfl⟩
 obtain⟨LC,hLC⟩:∃LC,LC=C.length:=⟨_,rfl⟩
 have c0:w.cell? ⟨wb,0,none⟩=some (.slice (some ⟨g1,0,none⟩) LH k1):=by rw[h.c];show some q.hv=_;rw[hv,hLH]
 have c1:w.cell? ⟨wb,1,none⟩=some (.slice none 0 0):=h.c 1
 have c2:w.cell? ⟨wb,2,none⟩=some (.slice (some ⟨g2,0,none⟩) LC k2):=by rw[h.c];show some q.cv=_;rw[cv,hLC]
 rw[←hLH] at hH
 rw[←hLC] at hC
 obtain⟨N,hN⟩:∃N,N=LH+LC:=⟨_,rfl⟩
 have hmk:∀w,(Instr.makeSlice 22 (.int .i64 0) (.int .i64 N)).run Tryz.prog w=.ok (.slice (some ⟨w.heap.size,0,none⟩) 0 N) (w.alloc (.cells (madeCells #[.int .u8 0] N) 5)):=make22 N (by omega)
 have e1:IntKind.i64.wrap ((LH:Int)+0)=(LH:Int):=by simp[IntKind.wrap,IntKind.bits,IntKind.signed];omega
 have e1':IntKind.i64.wrap (LH:Int)=(LH:Int):=by simp[IntKind.wrap,IntKind.bits,IntKind.signed];omega
 have e2:IntKind.i64.wrap ((LH:Int)+(LC:Int))=(N:Int):=by rw[show (LH:Int)+(LC:Int)=(N:Int) by omega];simp[IntKind.wrap,IntKind.bits,IntKind.signed];omega
 have hc1:∀j u,(Lib.byteCells H)[j]?=some u→w.cell? ⟨g1,j,none⟩=some u:=fun j u hu=>by
  have ho:=h.hd
  rw[hv] at ho
  have hj:j < H.length:=by have:=(zL hu).1;simpa [Lib.byteCells] using this
  rw[World.ownsRow.cellAt ho j (by omega)]
  exact hu
 have hc2:∀j u,(Lib.byteCells C)[j]?=some u→w.cell? ⟨g2,j,none⟩=some u:=fun j u hu=>by
  have ho:=h.ct
  rw[cv] at ho
  have hj:j < C.length:=by have:=(zL hu).1;simpa [Lib.byteCells] using this
  rw[World.ownsRow.cellAt ho j (by omega)]
  exact hu
 have addj:∀(g j:Nat),(⟨g,0,none⟩:Addr).add j=⟨g,j,none⟩:=fun g j=>by cases j<;>simp[Addr.add]
 obtain⟨wA,hwA⟩:∃wA,wA=(w.alloc (.cells (madeCells #[.int .u8 0] N) 5)).drew:=⟨_,rfl⟩
 have FA:Hid (ZF w wA):=by show Fr _ _ _;rw[hwA];exact ((Fr.refl _ w).alloc _).drew
 have OA:Hid (wA.ownsRow w.heap.size 5 1 (.slice (some ⟨w.heap.size,0,none⟩) 0 N) 0 []):=by
  rw[hwA]
  exact⟨rfl,.inr ⟨w.heap.size,N,_,rfl,Nat.le_refl _,zN w _,Nat.zero_le _,by unfold maxLen;omega,by rw[size_madeCells,Nat.mul_one],rfl⟩⟩
 have HC1:Hid (∀j u,(Lib.byteCells H)[j]?=some u→wA.cell? ((⟨g1,0,none⟩:Addr).add j)=some u):=fun j u hu=>by rw[addj];exact FA.out.cell (hc1 j u hu) (fun h=>h)
 have HC2:Hid (∀j u,(Lib.byteCells C)[j]?=some u→w.cell? ⟨g2,j,none⟩=some u):=hc2
 have HAD:=zH addj
 have l1:Hid ((Lib.byteCells H).length=LH*1):=by show _=_;rw[hLH];simp[Lib.byteCells]
 have l2:Hid ((Lib.byteCells C).length=LC*1):=by show _=_;rw[hLC];simp[Lib.byteCells]
 have K3:Hid (0+LH≤maxLen):=by show _≤_;unfold maxLen;omega
 have K4:Hid ((0+LH)*1≤140737488355328):=by show _≤_;omega
 have K3':Hid (0+LH+LC≤maxLen):=by show _≤_;unfold maxLen;omega
 have K4':Hid ((0+LH+LC)*1≤140737488355328):=by show _≤_;omega
 have K5:Hid (w.heap.size≤wA.heap.size):=FA.out.size
 have HWA:=zH hwA
 have hLH0:0 < LH:=by omega
 have HLN:Hid (LH=H.length∧LC=C.length):=⟨hLH,hLC⟩
 have c0':=FA.out.cell c0 (fun h=>h)
 have c1':=FA.out.cell c1 (fun h=>h)
 have c2':=FA.out.cell c2 (fun h=>h)
 have HCW:=zH (⟨c1,c2⟩:_∧_)
 have hwbl:=h.lt
 clear h hLH hLC hN hv cv hc1 hc2 addj hwA hH0 hC0
 go_enter Tryz.func76,Tryz.ntmps76
 go_upto_region 1 with fail
 go_region
 rw[←HWA.out]
 clear c0 c1 c2 hmk e1 e1' e2
 go_upto_region 3 with (at_builtin;refine wpList_append_own_at _ rfl _ _ 22 rfl w.heap.size 5 i0 (.int .u8 0) 1 1 Tryz.underlying22 hi0 hz0 hz1 hz2 rfl (by decide) _ 0 [] rfl OA.out ⟨g1,0,none⟩ LH k1 (Lib.byteCells H) rfl l1.out HC1.out (byte_one H) K3.out K4.out K5.out ?_;intro v' w7 hown1 hgrow1 _ hat;obtain⟨g6,cap6,rfl,hg6,_⟩:=own_capE hown1 (by omega);have O7:=zH hown1;have F7:Hid (ZF w w7):=(FA.out.grown hgrow1 (fun k hk=>.inl (by have hk:some w.heap.size=some k:=hk;injection hk with hk;omega)));clear hown1 hgrow1 hat)
 have O8:Hid (w7.ownsRow w.heap.size 5 1 (.slice (some ⟨g6,0,none⟩) LH cap6) LH (Lib.byteCells H)):=by have h:=O7.out;rw[Nat.zero_add,List.nil_append] at h;exact h
 have hap:(Builtin.append_ #[22,22] 22 #[.slice (some ⟨g6,0,none⟩) LH cap6,.slice none 0 0]).run Tryz.prog w7=.ok (.slice (some ⟨g6,0,none⟩) LH cap6) w7:=run_append_owned_none (w:=w7) w.heap.size 22 22 5 i0 1 Tryz.underlying22 hi0 _ LH _ O8.out
 have d1:=F7.out.cell HCW.out.1 (fun h=>h)
 have d2:=F7.out.cell HCW.out.2 (fun h=>h)
 have HC7:Hid (∀j u,(Lib.byteCells C)[j]?=some u→w7.cell? ((⟨g2,0,none⟩:Addr).add j)=some u):=fun j u hu=>by rw[HAD.out];exact F7.out.cell (HC2.out j u hu) (fun h=>h)
 have K5':Hid (w.heap.size≤w7.heap.size):=F7.out.size
 have K6:Hid (LH+LC≤maxLen):=by have:=K3'.out;show _≤_;omega
 have K7:Hid ((LH+LC)*1≤140737488355328):=by have:=K4'.out;show _≤_;omega
 clear c0' c1' c2' O7
 go_upto_region 4 with fail
 go_wp2_with (at_builtin;refine wpList_append_own_at _ rfl _ _ 22 rfl w.heap.size 5 i0 (.int .u8 0) 1 1 Tryz.underlying22 hi0 hz0 hz1 hz2 rfl (by decide) _ LH (Lib.byteCells H) rfl O8.out ⟨g2,0,none⟩ LC k2 (Lib.byteCells C) rfl l2.out HC7.out (byte_one C) K6.out K7.out K5'.out ?_;intro v' w8 hown1 hgrow1 _ hat;obtain⟨g8,cap8,rfl,hg8,hc8⟩:=own_capE hown1 (by omega);have O9:=zH hown1;have F9:Hid (ZF w w8):=(F7.out.grown hgrow1 (fun k hk=>.inl (by have hk:some g6=some k:=hk;injection hk with hk;omega)));clear hown1 hgrow1 hat)
 go_ret
 refine⟨g8,LH+LC,cap8,rfl,?_⟩
 obtain⟨e1,e2⟩:=HLN.out
 refine⟨by rw[List.length_append,e1,e2],hc8,hg8,fun j hj=>?_,F9.out⟩
 have ho:=O9.out
 rw[List.length_append] at hj
 rw[Nat.zero_add,World.ownsRow.cellAt ho j (by omega),show Lib.byteCells H++Lib.byteCells C=Lib.byteCells (H++C) by simp[Lib.byteCells]]
 show ((H++C).map _)[j]?=_
 rw[List.getElem?_map,List.getElem?_eq_getElem (by rw[List.length_append];exact hj)]
 rfl
open Go.RowKit
theorem hd_doc(k dim p z m:Nat)(ps:List Int)(s:Sh)(ex hz hm:Bool)(he:ex=decide (dim≠0))(h1:hz=decide (dim % 2=1))(h2:hm=decide (dim / 2 % 2=1))(x:Nat)(hx:x=(if hz=true then 1+4*z else 0)+(if hm=true then 2+32*m else 0)):
  hdE [] k p x ex++bodyE k ps (ps.map fun _=>0) s=docE k dim p z m ps s:=by
 subst he h1 h2 hx
 unfold hdE docE extE
 by_cases h:dim=0
 ·subst h;simp
 ·simp[h]
open Go.RowKit
theorem RC.len{l l':List UInt8}{ds:List Int}(h:RC l ds l'):ds.length+l'.length≤l.length:=by
 induction h with
 | nil=>simp
 | cons h1 _ _ ih =>
  obtain⟨m,a,b,_,rfl⟩:=h1
  rw[List.length_drop] at ih
  rw[List.length_cons]
  omega
theorem uv_len{l l':List UInt8}{z:Nat}(h:UV l z l'):1+l'.length≤l.length:=by
 obtain⟨m,a,b,_,rfl⟩:=h
 rw[List.length_drop]
 omega
def lnW (xs:List (Int × Int)):Nat:=10*xs.length+10
def plW (xs:List (List (Int × Int))):Nat:=10+(xs.map lnW).sum
def bdW:Sh→Nat
 | .one xs=>lnW xs
 | .two xs=>plW xs
 | .three xs=>10+(xs.map plW).sum
section
variable {ps Q Q':List Int}{l l':List UInt8}
theorem RowP.size{n:Nat}{xs:List (Int × Int)}(h:RowP ps Q n l xs Q' l')(hp:0 < ps.length):xs.length+l'.length≤l.length:=by
 obtain⟨ds,h1,_,_,rfl⟩:=h.ex
 rw[run_length ds _ (by rw[List.length_zip,h.q0];omega)]
 exact h1.len
theorem LineP.size{mx:Nat}{xs:List (Int × Int)}(h:LineP mx ps Q l xs Q' l')(hp:0 < ps.length):lnW xs+20*l'.length≤20*l.length:=by
 obtain⟨n,l0,_,hu,hr⟩:=h
 have h1:=uv_len hu
 have h2:=hr.size hp
 unfold lnW
 omega
theorem RingP.size{mx:Nat}{xs:List (Int × Int)}(h:RingP mx ps Q l xs Q' l')(hp:0 < ps.length):lnW xs+20*l'.length≤20*l.length:=by
 obtain⟨ys,⟨n,l0,_,hu,hr⟩,rfl⟩:=h
 have h1:=uv_len hu
 have h2:=hr.size hp
 have h3:(closedP ps.length ys).length≤2*ys.length:=by
  unfold closedP
  split
  ·omega
  ·rw[List.length_append,List.length_take]
   omega
 unfold lnW
 omega
theorem SqP.size{α:Type}{R:List Int→List UInt8→α→List Int→List UInt8→Prop}{f:α→Nat}(hR:∀{Q Q':List Int}{l l':List UInt8}{x:α},R Q l x Q' l'→f x+20*l'.length≤20*l.length){n:Nat}{xs:List α}(h:SqP R n Q l xs Q' l'):(xs.map f).sum+20*l'.length≤20*l.length:=by
 induction h with
 | nil=>simp
 | cons h1 _ ih =>
  have:=hR h1
  rw[List.map_cons,List.sum_cons]
  omega
theorem PolyP.size{mx:Nat}{xs:List (List (Int × Int))}(h:PolyP mx ps Q l xs Q' l')(hp:0 < ps.length):plW xs+20*l'.length≤20*l.length:=by
 obtain⟨n,l0,_,hu,hs⟩:=h
 have h1:=uv_len hu
 have h2:=hs.size (f:=lnW) (fun h=>h.size hp)
 unfold plW
 omega
theorem IdsP.size{ids:Bool}{n:Nat}{is:List Int}(h:IdsP ids n l is l'):l'.length≤l.length:=by
 unfold IdsP at h
 split at h
 ·have:=h.1.len;omega
 ·rw[h.2];exact Nat.le_refl _
theorem BodyP.size{mx kind:Nat}{ids:Bool}{s:Sh}{is:List Int}(h:BodyP mx kind ids ps Q l s is l')(hp:0 < ps.length):bdW s≤20*l.length+10:=by
 obtain⟨Q',h⟩:=h
 unfold BodyQ at h
 split at h
 ·have:=h.1.size hp
  show 10*_+10≤_
  omega
 ·have:=h.1.size hp
  show lnW _≤_
  omega
 ·have:=h.1.size hp
  show plW _≤_
  omega
 ·obtain⟨n,l0,l1,_,hu,hi,hs⟩:=h
  have h1:=uv_len hu
  have h2:=hi.size
  have h3:=hs.size (f:=lnW) (fun h=>by
   have:=h.size hp
   have:=(h.wr hp).len
   unfold lnW
   omega)
  show 10+_≤_
  omega
 ·obtain⟨n,l0,l1,_,hu,hi,hs⟩:=h
  have h1:=uv_len hu
  have h2:=hi.size
  have h3:=hs.size (f:=lnW) (fun h=>h.size hp)
  show 10+_≤_
  omega
 ·obtain⟨n,l0,l1,_,hu,hi,hs⟩:=h
  have h1:=uv_len hu
  have h2:=hi.size
  have h3:=hs.size (f:=plW) (fun h=>h.size hp)
  show 10+_≤_
  omega
 ·exact h.elim
theorem encD_len:∀ds:List Int,(∀d∈ds,-18014398509481984≤d∧d≤18014398509481984)→(encD ds).length≤10*ds.length
 | [],_=>Nat.le_refl _
 | d :: ds,h=>by
  have hd:=h d (by simp)
  have h1:=encD_len ds (fun x hx=>h x (by simp[hx]))
  have hz:Lib.zigzag d < 18446744073709551616:=by unfold Lib.zigzag;split<;>omega
  have h2:=Lib.uvarint_length64 hz
  rw[encD_cons,List.length_append,List.length_cons]
  omega
theorem rowE_len{n:Nat}{xs:List (Int × Int)}(h:WR ps n xs)(hp:0 < ps.length)(hQ:QOk ps Q):(rowE ps Q xs).length≤10*xs.length:=by
 have h1:=encD_len _ (diffs_bd xs _ (zip_bd ps Q hQ.2) h.bd)
 rw[diffs_length xs _ (by rw[List.length_zip,hQ.1];omega)] at h1
 exact h1
theorem uv10{n:Nat}(h:n≤5000):(Lib.uvarint n).length≤10:=Lib.uvarint_length64 (by omega)
theorem lineE_len{n:Nat}{xs:List (Int × Int)}(h:WR ps n xs)(hn:n≤5000)(hp:0 < ps.length)(hQ:QOk ps Q):(lineE ps Q xs).length≤lnW xs:=by
 have h1:=rowE_len h hp hQ
 have h2:=uv10 (n:=xs.length / ps.length) (by rw[h.len,Nat.mul_div_cancel _ hp];exact hn)
 unfold lineE lnW
 rw[List.length_append]
 omega
theorem sqE_len{α:Type}{E:List Int→α→List UInt8}{N:List Int→α→List Int}{f:α→Nat}:∀(xs:List α) (Q:List Int),(∀x∈xs,∀Q,QOk ps Q→(E Q x).length≤f x∧QOk ps (N Q x))→QOk ps Q→(sqE E N Q xs).length≤(xs.map f).sum∧QOk ps (sqN N Q xs)
 | [],Q,_,hQ=>⟨Nat.le_refl _,hQ⟩
 | x :: xs,Q,h,hQ=>by
  obtain⟨h1,h2⟩:=h x (by simp) Q hQ
  obtain⟨h3,h4⟩:=sqE_len xs (N Q x) (fun y hy=>h y (by simp[hy])) h2
  refine⟨?_,h4⟩
  rw[sqE,List.length_append,List.map_cons,List.sum_cons]
  omega
theorem polyE_len{xs:List (List (Int × Int))}(hl:xs.length≤4096)(h:∀x∈xs,∃n,n≤5000∧WR ps n x)(hp:0 < ps.length)(hQ:QOk ps Q):(polyE ps Q xs).length≤plW xs∧QOk ps (polyN ps Q xs):=by
 have h1:=sqE_len (ps:=ps) (E:=lineE ps) (N:=lastQ ps) (f:=lnW) xs Q (fun x hx Q hQ=>by
  obtain⟨n,hn,hw⟩:=h x hx
  exact⟨lineE_len hw hn hp hQ,(row_enc hw hp hQ []).2⟩) hQ
 have h2:=uv10 (n:=xs.length) (by omega)
 refine⟨?_,h1.2⟩
 unfold polyE plW
 rw[List.length_append]
 omega
theorem bodyE_len{kind:Nat}{s:Sh}(h:WS 5000 kind ps s)(hp:0 < ps.length)(hQ:QOk ps Q):(bodyE kind ps Q s).length≤bdW s:=by
 unfold WS at h
 split at h
 ·have:=rowE_len h hp hQ
  show (rowE ps Q _).length≤10*_+10
  omega
 ·obtain⟨n,hn,hw⟩:=h
  exact lineE_len hw hn hp hQ
 ·exact (polyE_len h.1 (fun x hx=>(h.2 x hx).2) hp hQ).1
 ·next xs =>
  have h1:=(sqE_len (ps:=ps) (E:=rowE ps) (N:=lastQ ps) (f:=lnW) xs Q (fun x hx Q hQ=>by
   have:=rowE_len (h.2 x hx) hp hQ
   exact⟨by unfold lnW;omega,(row_enc (h.2 x hx) hp hQ []).2⟩) hQ).1
  have h2:=uv10 (n:=xs.length) (by omega)
  show (Lib.uvarint xs.length++sqE (rowE ps) (lastQ ps) Q xs).length≤10+_
  rw[List.length_append]
  omega
 ·next xs =>
  have h1:=(sqE_len (ps:=ps) (E:=lineE ps) (N:=lastQ ps) (f:=lnW) xs Q (fun x hx Q hQ=>by
   obtain⟨n,hn,hw⟩:=h.2 x hx
   exact⟨lineE_len hw hn hp hQ,(row_enc hw hp hQ []).2⟩) hQ).1
  have h2:=uv10 (n:=xs.length) (by omega)
  show (Lib.uvarint xs.length++sqE (lineE ps) (lastQ ps) Q xs).length≤10+_
  rw[List.length_append]
  omega
 ·next xs =>
  have h1:=(sqE_len (ps:=ps) (E:=polyE ps) (N:=polyN ps) (f:=plW) xs Q (fun x hx Q hQ=>polyE_len (h.2 x hx).1 (fun y hy=>((h.2 x hx).2 y hy).2) hp hQ) hQ).1
  have h2:=uv10 (n:=xs.length) (by omega)
  show (Lib.uvarint xs.length++sqE (polyE ps) (polyN ps) Q xs).length≤10+_
  rw[List.length_append]
  omega
 ·exact h.elim
end
theorem wr_pos{ps:List Int}{n:Nat}{xs:List (Int × Int)}(h:WR ps n xs)(hx:xs≠[]):0 < n:=by
 rcases Nat.eq_zero_or_pos n with rfl|h1
 ·have:=h.len
  rw[Nat.zero_mul] at this
  exact (hx (List.length_eq_zero_iff.1 this)).elim
 ·exact h1
theorem wr_sz{ps:List Int}{n dim:Nat}{xs:List (Int × Int)}(h:WR ps n xs)(hn:n≤5000)(hpl:ps.length=wd dim)(hx:xs≠[]):0 < xs.length∧xs.length≤30000∧xs.length % wd dim=0:=by
 refine⟨List.length_pos_iff.2 hx,?_,?_⟩
 ·have:=h.len
  have h4:wd dim≤4:=by unfold wd;omega
  have:=Nat.mul_le_mul hn (hpl ▸ h4:ps.length≤4)
  omega
 ·rw[h.len,hpl]
  exact Nat.mul_mod_left _ _
theorem sound{k dim:Nat}{ps:List Int}{s:Sh}(hpl:ps.length=wd dim)(h:WS 5000 k ps s)(ne:NE s)(sm:s.all (fun x=>x.1∈ps∧x.2.natAbs < 35184372088832)):SOk k ps s∧GOk k dim s:=by
 have pos:∀{α:Type}{x:List α},x≠[]→0 < x.length:=fun h=>List.length_pos_iff.2 h
 unfold WS at h
 split at h
 ·exact⟨⟨h,fun x hx=>(sm x hx).2⟩,by show _=_;rw[h.len,hpl,Nat.one_mul]⟩
 ·obtain⟨n,hn,hw⟩:=h
  exact⟨⟨⟨n,wr_pos hw ne,hn,hw⟩,fun x hx=>(sm x hx).2⟩,wr_sz hw hn hpl ne⟩
 ·refine⟨fun x hx=>?_,pos ne.1,h.1,fun x hx=>?_⟩
  ·obtain⟨_,n,hn,hw⟩:=h.2 x hx
   exact⟨⟨n,wr_pos hw (ne.2 x hx),hn,hw⟩,fun y hy=>(sm x hx y hy).2⟩
  ·obtain⟨_,n,hn,hw⟩:=h.2 x hx
   exact wr_sz hw hn hpl (ne.2 x hx)
 ·refine⟨fun x hx=>⟨h.2 x hx,fun y hy=>(sm x hx y hy).2⟩,pos ne.1,h.1,fun x hx=>?_⟩
  rw[(h.2 x hx).len,hpl,Nat.one_mul]
 ·refine⟨fun x hx=>?_,pos ne.1,h.1,fun x hx=>?_⟩
  ·obtain⟨n,hn,hw⟩:=h.2 x hx
   exact⟨⟨n,wr_pos hw (ne.2 x hx),hn,hw⟩,fun y hy=>(sm x hx y hy).2⟩
  ·obtain⟨n,hn,hw⟩:=h.2 x hx
   exact wr_sz hw hn hpl (ne.2 x hx)
 ·refine⟨fun x hx y hy=>?_,pos ne.1,h.1,fun x hx=>⟨pos (ne.2 x hx).1,(h.2 x hx).1,fun y hy=>?_⟩⟩
  ·obtain⟨_,n,hn,hw⟩:=(h.2 x hx).2 y hy
   exact⟨⟨n,wr_pos hw ((ne.2 x hx).2 y hy),hn,hw⟩,fun z hz=>(sm x hx y hy z hz).2⟩
  ·obtain⟨_,n,hn,hw⟩:=(h.2 x hx).2 y hy
   exact wr_sz hw hn hpl ((ne.2 x hx).2 y hy)
 ·exact h.elim
end Go.Proofs.YtnjjgbcmjnfijaaGreatDoor
