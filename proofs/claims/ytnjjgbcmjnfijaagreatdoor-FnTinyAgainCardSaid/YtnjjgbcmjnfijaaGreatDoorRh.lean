/- The package's reader of tiny bytes: what stands behind the headers, by kind. No condition. -/
import Derived.Test.YtnjjgbcmjnfijaaGreatDoorRf
import Derived.Test.YtnjjgbcmjnfijaaGreatDoorR9
import Derived.Test.YtnjjgbcmjnfijaaGreatDoorLa
import Derived.Test.YtnjjgbcmjnfijaaGreatDoorRa
namespace Go.Proofs.YtnjjgbcmjnfijaaGreatDoor
set_option maxRecDepth 100000
set_option maxHeartbeats 4000000
open Go.RowKit
def ShE (k d:Nat) (s:Sh) (P:Nat→Prop) (w:World) (cs:List Value):Prop :=
 match k,s with
 | 1,.one xs=>PtE d P w cs (xs.map flp)
 | 2,.one xs=>LnE d P w cs (xs.map flp)
 | 3,.two xs=>RwE (LnE d) 2 d P w cs (xs.map (·.map flp))
 | 4,.two xs=>RwE (PtE d) 6 d P w cs (xs.map (·.map flp))
 | 5,.two xs=>RwE (LnE d) 2 d P w cs (xs.map (·.map flp))
 | 6,.three xs=>RwE (RwE (LnE d) 2 d) 2 d P w cs (xs.map (·.map (·.map flp)))
 | _,_=>False
theorem ShE.mono{k d:Nat}{s:Sh}{P Q:Nat→Prop}{w:World}{cs:List Value}(h:ShE k d s P w cs)(hq:∀b,P b→b < w.heap.size→Q b):ShE k d s Q w cs:=by
 match k,s,h with
 | 1,.one xs,h=>exact (PtE.kp d).mono hq h
 | 2,.one xs,h=>exact (LnE.kp d).mono hq h
 | 3,.two xs,h=>exact (RwE.kp (LnE.kp d) (by decide) d).mono hq h
 | 4,.two xs,h=>exact (RwE.kp (PtE.kp d) (by decide) d).mono hq h
 | 5,.two xs,h=>exact (RwE.kp (LnE.kp d) (by decide) d).mono hq h
 | 6,.three xs,h=>exact (RwE.kp (RwE.kp (LnE.kp d) (by decide) d) (by decide) d).mono hq h
theorem ShE.kept{k d:Nat}{s:Sh}{P:Nat→Prop}{w w':World}{cs:List Value}(h:ShE k d s P w cs)(hq:∀b,P b→b < w.heap.size→w'.heap[b]?=w.heap[b]?):ShE k d s P w' cs:=by
 match k,s,h with
 | 1,.one xs,h=>exact (PtE.kp d).kept hq h
 | 2,.one xs,h=>exact (LnE.kp d).kept hq h
 | 3,.two xs,h=>exact (RwE.kp (LnE.kp d) (by decide) d).kept hq h
 | 4,.two xs,h=>exact (RwE.kp (PtE.kp d) (by decide) d).kept hq h
 | 5,.two xs,h=>exact (RwE.kp (LnE.kp d) (by decide) d).kept hq h
 | 6,.three xs,h=>exact (RwE.kp (RwE.kp (LnE.kp d) (by decide) d) (by decide) d).kept hq h
def Kd (k:Nat) (pb tb tf tc:Nat) (T:List UInt8) (p:Pr) (s:Sh) (w:World) (cs:List Value) (w':World):Prop :=
 ∃p':Pr,PrAt pb tb tf tc T p' w'∧Fr (Eq pb) w w'∧ShE k p.dm s (fun b=>w.heap.size≤b) w' cs∧p'.bb=p.bb∧p'.bv=p.bv∧∃(a:Option Addr) (n c:Nat),p'.iv=.slice a n c
theorem Kd.from{k pb tb tf tc:Nat}{T:List UInt8}{p:Pr}{s:Sh}{w0 w w':World}{cs:List Value}(h:Kd k pb tb tf tc T p s w cs w')(f:Fr (Eq pb) w0 w):Kd k pb tb tf tc T p s w0 cs w':=by
 obtain⟨p',h1,h2,h3,h4⟩:=h
 exact⟨p',h1,f.trans h2,h3.mono (fun b hb _=>Nat.le_trans f.size hb),h4⟩
structure Bd1 (k:Nat) (T:List UInt8) (p:Pr) (s:Sh) (ps:List Int):Prop where
 sc:ScOk p ps
 ok:DmOk p ps
 iv:p.iv=.slice none 0 0
 bd:∃(Q0:List Int) (mx:Nat) (is Q':List Int) (l':List UInt8),mx≤5000∧RfOk p.rf Q0∧BodyQ mx k p.ix ps Q0 (T.drop p.pos) s is Q' l'
 ne:NE s
def KP1 (k:Nat) (pb tb tf tc:Nat) (T:List UInt8) (p:Pr) (s:Sh) (w:World) (e:Ending) (w':World):Prop :=
 ∃x y z m:Nat,e=.returned (.tuple #[.agg #[.float .f64 x,.float .f64 y,.float .f64 z,.float .f64 m,.int .u8 p.dm,.bool true],.nilIface])∧Hid (Kd k pb tb tf tc T p s w [.float .f64 x,.float .f64 y,.float .f64 z,.float .f64 m,.int .u8 p.dm,.bool true] w')
def KP2 (k:Nat) (pb tb tf tc:Nat) (T:List UInt8) (p:Pr) (s:Sh) (w:World) (e:Ending) (w':World):Prop :=
 ∃g n c:Nat,e=.returned (.tuple #[.agg #[.int .u8 p.dm,.slice (some ⟨g,0,none⟩) n c],.nilIface])∧Hid (Kd k pb tb tf tc T p s w [.int .u8 p.dm,.slice (some ⟨g,0,none⟩) n c] w')
def KP3 (k:Nat) (pb tb tf tc:Nat) (T:List UInt8) (p:Pr) (s:Sh) (w:World) (e:Ending) (w':World):Prop :=
 ∃g n c:Nat,e=.returned (.tuple #[.agg #[.slice (some ⟨g,0,none⟩) n c,.int .u8 p.dm],.nilIface])∧Hid (Kd k pb tb tf tc T p s w [.slice (some ⟨g,0,none⟩) n c,.int .u8 p.dm] w')
theorem Kd.wrap{k pb tb tf tc:Nat}{T:List UInt8}{p:Pr}{s:Sh}{w w0 w1 w2:World}{cs:List Value}(h:Kd k pb tb tf tc T p s w0 cs w1)(s0:w0.heap.size=w.heap.size+1)(f0:ZF w w0)(f:Fr (Eq w.heap.size) w1 w2)(hpb:pb < w.heap.size)(htw:tb < w.heap.size):Kd k pb tb tf tc T p s w cs w2:=by
 obtain⟨p',h1,h2,h3,h4⟩:=h
 refine⟨p',h1.fr f (by omega) (by omega),((f0.weak (fun _ h=>h.elim)).trans h2).transNew f (fun b e=>.inl (by omega)),?_,h4⟩
 exact (h3.kept (fun b hb hl=>f.block b hl (by omega))).mono (fun b hb _=>by omega)
theorem wrap_block{k pb tb tf tc:Nat}{T:List UInt8}{p:Pr}{s:Sh}{B:Nat}{w0 w1:World}{cs:List Value}{o:Obj}(h:Kd k pb tb tf tc T p s w0 cs w1)(s0:w0.heap.size=B+1)(b0:w0.heap[B]?=some o)(hpb:pb < B:=by omega):w1.heap[B]?=some o:=by
 obtain⟨p',_,h3,_⟩:=h
 exact (h3.block B (by omega) (by omega)).trans b0
theorem ids_slice{p:Pr}{is:List Int}{v:Value}{B:Nat}{w:World}(hv:p.iv=.slice none 0 0)(h:IdOk p is v B w):∃(a:Option Addr) (n c:Nat),v=.slice a n c:=by
 cases hx:p.ix with
 | false=>exact⟨_,_,_,(h.1 hx).1.trans hv⟩
 | true =>
  obtain⟨g,_,hg,_⟩:=h.2 hx
  exact⟨_,_,_,hg⟩
theorem body1{pb tb tf tc:Nat}{T:List UInt8}{p:Pr}{w:World}(h:PrAt pb tb tf tc T p w)(htw:tb < w.heap.size){s:Sh}{ps:List Int}(hb:Bd1 1 T p s ps):
  Calls Tryz.prog 192 #[.pointer (some ⟨pb,0,none⟩)] w (KP1 1 pb tb tf tc T p s w):=by
 obtain⟨Q0,mx,is,Q',l',hmx,hrf,hq⟩:=hb.bd
 obtain⟨xs,rfl⟩:∃xs,s=.one xs:=by cases s with
  | one xs=>exact⟨xs,rfl⟩
  | two xs=>exact hq.elim
  | three xs=>exact hq.elim
 refine (point192 h htw hb.sc hrf hq.1 hb.ok).mono ?_
 rintro e w' ⟨x,y,z,m,rfl,q,rf,hh⟩
 obtain⟨a1,a2,a3,a4,a5,a6,a7⟩:=hh.out
 exact⟨x,y,z,m,rfl,_,a5,a7,⟨x,y,z,m,rfl,a1⟩,rfl,rfl,_,_,_,hb.iv⟩
theorem body2{pb tb tf tc:Nat}{T:List UInt8}{p:Pr}{w:World}(h:PrAt pb tb tf tc T p w)(htw:tb < w.heap.size){s:Sh}{ps:List Int}(hb:Bd1 2 T p s ps):
  Calls Tryz.prog 194 #[.pointer (some ⟨pb,0,none⟩)] w (KP2 2 pb tb tf tc T p s w):=by
 obtain⟨Q0,mx,is,Q',l',hmx,hrf,hq⟩:=hb.bd
 obtain⟨xs,rfl⟩:∃xs,s=.one xs:=by cases s with
  | one xs=>exact⟨xs,rfl⟩
  | two xs=>exact hq.elim
  | three xs=>exact hq.elim
 have hlp:=hq.1
 obtain⟨n0,l0,hn0,hu0,hr0⟩:=hq.1
 have hlen:=hr0.len (by have:=hb.sc.lo;omega)
 have hne:0 < xs.length:=List.length_pos_iff.2 hb.ne
 refine (line194 h htw hmx hb.sc hrf hlp hb.ok.le hb.ok.wd).mono ?_
 rintro e w' ⟨g,rfl,q,rf,hh⟩
 obtain⟨a1,a2,a3,a4,a5,a6,a7,a8⟩:=hh.out
 have hpl:=hb.sc.hi
 have h20:xs.length≤30000:=by
  have:n0*ps.length≤5000*4:=Nat.mul_le_mul (by omega) hpl
  omega
 refine⟨g,xs.length,xs.length,rfl,_,a5,a7,⟨g,0,xs.length,xs.length,rfl,by simp,Nat.le_refl _,hne,?_,h20,a1,fun j u hj=>?_⟩,rfl,rfl,_,_,_,hb.iv⟩
 ·rw[hlen,←hb.ok.wd];exact Nat.mul_mod_left _ _
 ·rw[zC a8,Nat.zero_add,List.getElem?_toArray];exact hj
theorem body3{pb tb tf tc:Nat}{T:List UInt8}{p:Pr}{w:World}(h:PrAt pb tb tf tc T p w)(htw:tb < w.heap.size){s:Sh}{ps:List Int}(hb:Bd1 3 T p s ps):
  Calls Tryz.prog 195 #[.pointer (some ⟨pb,0,none⟩)] w (KP3 3 pb tb tf tc T p s w):=by
 obtain⟨Q0,mx,is,Q',l',hmx,hrf,hq⟩:=hb.bd
 obtain⟨xs,rfl⟩:∃xs,s=.two xs:=by cases s with
  | one xs=>exact hq.elim
  | two xs=>exact⟨xs,rfl⟩
  | three xs=>exact hq.elim
 refine (poly195 h htw hmx hb.sc hrf hq.1 hb.ok hb.ne.1 hb.ne.2).mono ?_
 rintro e w' ⟨g,n,c,rfl,q,rf,hh⟩
 obtain⟨a1,a2,a3,a4,a5,a6,a7,a8⟩:=hh.out
 exact⟨g,n,c,rfl,_,a6,a8,a2,rfl,rfl,_,_,_,hb.iv⟩
theorem body4{pb tb tf tc:Nat}{T:List UInt8}{p:Pr}{w:World}(h:PrAt pb tb tf tc T p w)(htw:tb < w.heap.size){s:Sh}{ps:List Int}(hb:Bd1 4 T p s ps):
  Calls Tryz.prog 196 #[.pointer (some ⟨pb,0,none⟩)] w (KP3 4 pb tb tf tc T p s w):=by
 obtain⟨Q0,mx,is,Q',l',hmx,hrf,hq⟩:=hb.bd
 obtain⟨xs,rfl⟩:∃xs,s=.two xs:=by cases s with
  | one xs=>exact hq.elim
  | two xs=>exact⟨xs,rfl⟩
  | three xs=>exact hq.elim
 obtain⟨n0,l0,l1,hn0,hu,hi,hs⟩:=hq
 refine (multi196 h htw hb.sc hrf rfl hn0 hu hi hs hb.ok hb.ne.1).mono ?_
 rintro e w' ⟨g,n,c,rfl,q,rf,v,hh⟩
 obtain⟨a1,a2,a3,a4,a5,a6,a7,a8,a9⟩:=hh.out
 exact⟨g,n,c,rfl,_,a6,a9,a2,rfl,rfl,ids_slice hb.iv a8⟩
theorem body5{pb tb tf tc:Nat}{T:List UInt8}{p:Pr}{w:World}(h:PrAt pb tb tf tc T p w)(htw:tb < w.heap.size){s:Sh}{ps:List Int}(hb:Bd1 5 T p s ps):
  Calls Tryz.prog 197 #[.pointer (some ⟨pb,0,none⟩)] w (KP3 5 pb tb tf tc T p s w):=by
 obtain⟨Q0,mx,is,Q',l',hmx,hrf,hq⟩:=hb.bd
 obtain⟨xs,rfl⟩:∃xs,s=.two xs:=by cases s with
  | one xs=>exact hq.elim
  | two xs=>exact⟨xs,rfl⟩
  | three xs=>exact hq.elim
 obtain⟨n0,l0,l1,hn0,hu,hi,hs⟩:=hq
 refine (multi197 h htw hmx hb.sc hrf rfl hn0 hu hi hs hb.ok hb.ne.1 hb.ne.2).mono ?_
 rintro e w' ⟨g,n,c,rfl,q,rf,v,hh⟩
 obtain⟨a1,a2,a3,a4,a5,a6,a7,a8,a9⟩:=hh.out
 exact⟨g,n,c,rfl,_,a6,a9,a2,rfl,rfl,ids_slice hb.iv a8⟩
theorem body6{pb tb tf tc:Nat}{T:List UInt8}{p:Pr}{w:World}(h:PrAt pb tb tf tc T p w)(htw:tb < w.heap.size){s:Sh}{ps:List Int}(hb:Bd1 6 T p s ps):
  Calls Tryz.prog 198 #[.pointer (some ⟨pb,0,none⟩)] w (KP3 6 pb tb tf tc T p s w):=by
 obtain⟨Q0,mx,is,Q',l',hmx,hrf,hq⟩:=hb.bd
 obtain⟨xs,rfl⟩:∃xs,s=.three xs:=by cases s with
  | one xs=>exact hq.elim
  | two xs=>exact hq.elim
  | three xs=>exact⟨xs,rfl⟩
 obtain⟨n0,l0,l1,hn0,hu,hi,hs⟩:=hq
 refine (multi198 h htw hmx hb.sc hrf rfl hn0 hu hi hs hb.ok hb.ne.1 hb.ne.2).mono ?_
 rintro e w' ⟨g,n,c,rfl,q,rf,v,hh⟩
 obtain⟨a1,a2,a3,a4,a5,a6,a7,a8,a9⟩:=hh.out
 exact⟨g,n,c,rfl,_,a6,a9,a2,rfl,rfl,ids_slice hb.iv a8⟩
theorem wrap1{pb tb tf tc:Nat}{T:List UInt8}{p:Pr}{w:World}(h:PrAt pb tb tf tc T p w)(htw:tb < w.heap.size)(hem:p.em=false){s:Sh}{ps:List Int}(hb:Bd1 1 T p s ps):
  Calls Tryz.prog 116 #[.pointer (some ⟨pb,0,none⟩)] w (KP1 1 pb tb tf tc T p s w):=by
 have hpb:=h.lt
 obtain⟨w0,hw0⟩:∃w0,w0=w.alloc (.cells #[.float .f64 0,.float .f64 0,.float .f64 0,.float .f64 0,.int .u8 0,.bool false] 115):=⟨_,rfl⟩
 have f0:ZF w w0:=by rw[hw0];exact (Fr.refl _ w).alloc _
 have s0:w0.heap.size=w.heap.size+1:=by rw[hw0];show (w.heap.push _).size=_;rw[Array.size_push]
 have b0:w0.heap[w.heap.size]?=some (.cells #[.float .f64 0,.float .f64 0,.float .f64 0,.float .f64 0,.int .u8 0,.bool false] 115 (0,0)):=by rw[hw0];exact zN w _
 have h0:=h.keep f0
 have c18:=h0.c18
 rw[hem,hw0] at c18
 have C:=zH (body1 h0 (by omega) hb)
 have HW:=zH hw0
 have F0:=zH f0
 have S0:=zH s0
 have B0:=zH b0
 obtain⟨d,hdd⟩:∃d,d=p.dm:=⟨_,rfl⟩
 have HD:=zH hdd
 clear h hb hem f0 h0 hw0 b0 hdd
 have hsf:=st_fl
 go_enter Tryz.func116,Tryz.ntmps116
 go_upto_region 3 with fail
 rw[←HW.out]
 go_wp2_with (go_at_call 192;refine C.out.mono ?_;rintro e w1 ⟨x,y,z,m,rfl,h1⟩;rw[←HD.out];have hb1:w1.heap[w.heap.size]?=some (.cells #[.float .f64 0,.float .f64 0,.float .f64 0,.float .f64 0,.int .u8 0,.bool false] 115 (0,0)):=wrap_block h1.out S0.out B0.out;have r0:w1.cell? ⟨w.heap.size,0,none⟩=some (.float .f64 0):=(by rw[zC hb1];rfl);have r1:w1.cell? ⟨w.heap.size,1,none⟩=some (.float .f64 0):=(by rw[zC hb1];rfl);have r2:w1.cell? ⟨w.heap.size,2,none⟩=some (.float .f64 0):=(by rw[zC hb1];rfl);have r3:w1.cell? ⟨w.heap.size,3,none⟩=some (.float .f64 0):=(by rw[zC hb1];rfl);have r4:w1.cell? ⟨w.heap.size,4,none⟩=some (.int .u8 0):=(by rw[zC hb1];rfl);have r5:w1.cell? ⟨w.heap.size,5,none⟩=some (.bool false):=(by rw[zC hb1];rfl);have rf:∀i,w1.frozen? ⟨w.heap.size,i,none⟩=false:=fun i=>zF hb1 i)
 refine bodyPost_ret (v:=.tuple #[.agg #[.float .f64 x,.float .f64 y,.float .f64 z,.float .f64 m,.int .u8 d,.bool true],.nilIface]) (by simp[results,Tryz.f116,go_sem,r0,r1,r2,r3,r4,r5]) rfl ?_
 exact⟨x,y,z,m,by rw[HD.out],zH (h1.out.wrap S0.out F0.out (((((((Fr.refl _ w1).setR (.float .f64 x)).setR (.float .f64 y)).setR (.float .f64 z)).setR (.float .f64 m)).setR (.int .u8 d)).setR (.bool true)) (by omega) (by omega))⟩
theorem wrap2{pb tb tf tc:Nat}{T:List UInt8}{p:Pr}{w:World}(h:PrAt pb tb tf tc T p w)(htw:tb < w.heap.size)(hem:p.em=false){s:Sh}{ps:List Int}(hb:Bd1 2 T p s ps):
  Calls Tryz.prog 117 #[.pointer (some ⟨pb,0,none⟩)] w (KP2 2 pb tb tf tc T p s w):=by
 have hpb:=h.lt
 obtain⟨w0,hw0⟩:∃w0,w0=w.alloc (.cells #[.int .u8 0,.slice none 0 0] 121):=⟨_,rfl⟩
 have f0:ZF w w0:=by rw[hw0];exact (Fr.refl _ w).alloc _
 have s0:w0.heap.size=w.heap.size+1:=by rw[hw0];show (w.heap.push _).size=_;rw[Array.size_push]
 have b0:w0.heap[w.heap.size]?=some (.cells #[.int .u8 0,.slice none 0 0] 121 (0,0)):=by rw[hw0];exact zN w _
 have h0:=h.keep f0
 have c18:=h0.c18
 rw[hem,hw0] at c18
 have C:=zH (body2 h0 (by omega) hb)
 have HW:=zH hw0
 have F0:=zH f0
 have S0:=zH s0
 have B0:=zH b0
 obtain⟨d,hdd⟩:∃d,d=p.dm:=⟨_,rfl⟩
 have HD:=zH hdd
 clear h hb hem f0 h0 hw0 b0 hdd
 go_enter Tryz.func117,Tryz.ntmps117
 go_upto_region 3 with fail
 rw[←HW.out]
 go_wp2_with (go_at_call 194;refine C.out.mono ?_;rintro e w1 ⟨g,n,c,rfl,h1⟩;rw[←HD.out];have hb1:w1.heap[w.heap.size]?=some (.cells #[.int .u8 0,.slice none 0 0] 121 (0,0)):=wrap_block h1.out S0.out B0.out;have r0:w1.cell? ⟨w.heap.size,0,none⟩=some (.int .u8 0):=(by rw[zC hb1];rfl);have r1:w1.cell? ⟨w.heap.size,1,none⟩=some (.slice none 0 0):=(by rw[zC hb1];rfl);have rf:∀i,w1.frozen? ⟨w.heap.size,i,none⟩=false:=fun i=>zF hb1 i)
 refine bodyPost_ret (v:=.tuple #[.agg #[.int .u8 d,.slice (some ⟨g,0,none⟩) n c],.nilIface]) (by simp[results,Tryz.f117,go_sem,r0,r1]) rfl ?_
 exact⟨g,n,c,by rw[HD.out],zH (h1.out.wrap S0.out F0.out (((Fr.refl _ w1).setR (.int .u8 d)).setR (.slice (some ⟨g,0,none⟩) n c)) (by omega) (by omega))⟩
theorem wrap3{pb tb tf tc:Nat}{T:List UInt8}{p:Pr}{w:World}(h:PrAt pb tb tf tc T p w)(htw:tb < w.heap.size)(hem:p.em=false){s:Sh}{ps:List Int}(hb:Bd1 3 T p s ps):
  Calls Tryz.prog 118 #[.pointer (some ⟨pb,0,none⟩)] w (KP3 3 pb tb tf tc T p s w):=by
 have hpb:=h.lt
 obtain⟨w0,hw0⟩:∃w0,w0=w.alloc (.cells #[.slice none 0 0,.int .u8 0] 126):=⟨_,rfl⟩
 have f0:ZF w w0:=by rw[hw0];exact (Fr.refl _ w).alloc _
 have s0:w0.heap.size=w.heap.size+1:=by rw[hw0];show (w.heap.push _).size=_;rw[Array.size_push]
 have b0:w0.heap[w.heap.size]?=some (.cells #[.slice none 0 0,.int .u8 0] 126 (0,0)):=by rw[hw0];exact zN w _
 have h0:=h.keep f0
 have c18:=h0.c18
 rw[hem,hw0] at c18
 have C:=zH (body3 h0 (by omega) hb)
 have HW:=zH hw0
 have F0:=zH f0
 have S0:=zH s0
 have B0:=zH b0
 obtain⟨d,hdd⟩:∃d,d=p.dm:=⟨_,rfl⟩
 have HD:=zH hdd
 clear h hb hem f0 h0 hw0 b0 hdd
 go_enter Tryz.func118,Tryz.ntmps118
 go_upto_region 3 with fail
 rw[←HW.out]
 go_wp2_with (go_at_call 195;refine C.out.mono ?_;rintro e w1 ⟨g,n,c,rfl,h1⟩;rw[←HD.out];have hb1:w1.heap[w.heap.size]?=some (.cells #[.slice none 0 0,.int .u8 0] 126 (0,0)):=wrap_block h1.out S0.out B0.out;have r0:w1.cell? ⟨w.heap.size,0,none⟩=some (.slice none 0 0):=(by rw[zC hb1];rfl);have r1:w1.cell? ⟨w.heap.size,1,none⟩=some (.int .u8 0):=(by rw[zC hb1];rfl);have rf:∀i,w1.frozen? ⟨w.heap.size,i,none⟩=false:=fun i=>zF hb1 i)
 refine bodyPost_ret (v:=.tuple #[.agg #[.slice (some ⟨g,0,none⟩) n c,.int .u8 d],.nilIface]) (by simp[results,Tryz.f118,go_sem,r0,r1]) rfl ?_
 exact⟨g,n,c,by rw[HD.out],zH (h1.out.wrap S0.out F0.out (((Fr.refl _ w1).setR (.slice (some ⟨g,0,none⟩) n c)).setR (.int .u8 d)) (by omega) (by omega))⟩
theorem wrap4{pb tb tf tc:Nat}{T:List UInt8}{p:Pr}{w:World}(h:PrAt pb tb tf tc T p w)(htw:tb < w.heap.size)(hem:p.em=false){s:Sh}{ps:List Int}(hb:Bd1 4 T p s ps):
  Calls Tryz.prog 119 #[.pointer (some ⟨pb,0,none⟩)] w (KP3 4 pb tb tf tc T p s w):=by
 have hpb:=h.lt
 obtain⟨w0,hw0⟩:∃w0,w0=w.alloc (.cells #[.slice none 0 0,.int .u8 0] 130):=⟨_,rfl⟩
 have f0:ZF w w0:=by rw[hw0];exact (Fr.refl _ w).alloc _
 have s0:w0.heap.size=w.heap.size+1:=by rw[hw0];show (w.heap.push _).size=_;rw[Array.size_push]
 have b0:w0.heap[w.heap.size]?=some (.cells #[.slice none 0 0,.int .u8 0] 130 (0,0)):=by rw[hw0];exact zN w _
 have h0:=h.keep f0
 have c18:=h0.c18
 rw[hem,hw0] at c18
 have C:=zH (body4 h0 (by omega) hb)
 have HW:=zH hw0
 have F0:=zH f0
 have S0:=zH s0
 have B0:=zH b0
 obtain⟨d,hdd⟩:∃d,d=p.dm:=⟨_,rfl⟩
 have HD:=zH hdd
 clear h hb hem f0 h0 hw0 b0 hdd
 go_enter Tryz.func119,Tryz.ntmps119
 go_upto_region 3 with fail
 rw[←HW.out]
 go_wp2_with (go_at_call 196;refine C.out.mono ?_;rintro e w1 ⟨g,n,c,rfl,h1⟩;rw[←HD.out];have hb1:w1.heap[w.heap.size]?=some (.cells #[.slice none 0 0,.int .u8 0] 130 (0,0)):=wrap_block h1.out S0.out B0.out;have r0:w1.cell? ⟨w.heap.size,0,none⟩=some (.slice none 0 0):=(by rw[zC hb1];rfl);have r1:w1.cell? ⟨w.heap.size,1,none⟩=some (.int .u8 0):=(by rw[zC hb1];rfl);have rf:∀i,w1.frozen? ⟨w.heap.size,i,none⟩=false:=fun i=>zF hb1 i)
 refine bodyPost_ret (v:=.tuple #[.agg #[.slice (some ⟨g,0,none⟩) n c,.int .u8 d],.nilIface]) (by simp[results,Tryz.f119,go_sem,r0,r1]) rfl ?_
 exact⟨g,n,c,by rw[HD.out],zH (h1.out.wrap S0.out F0.out (((Fr.refl _ w1).setR (.slice (some ⟨g,0,none⟩) n c)).setR (.int .u8 d)) (by omega) (by omega))⟩
theorem wrap5{pb tb tf tc:Nat}{T:List UInt8}{p:Pr}{w:World}(h:PrAt pb tb tf tc T p w)(htw:tb < w.heap.size)(hem:p.em=false){s:Sh}{ps:List Int}(hb:Bd1 5 T p s ps):
  Calls Tryz.prog 120 #[.pointer (some ⟨pb,0,none⟩)] w (KP3 5 pb tb tf tc T p s w):=by
 have hpb:=h.lt
 obtain⟨w0,hw0⟩:∃w0,w0=w.alloc (.cells #[.slice none 0 0,.int .u8 0] 134):=⟨_,rfl⟩
 have f0:ZF w w0:=by rw[hw0];exact (Fr.refl _ w).alloc _
 have s0:w0.heap.size=w.heap.size+1:=by rw[hw0];show (w.heap.push _).size=_;rw[Array.size_push]
 have b0:w0.heap[w.heap.size]?=some (.cells #[.slice none 0 0,.int .u8 0] 134 (0,0)):=by rw[hw0];exact zN w _
 have h0:=h.keep f0
 have c18:=h0.c18
 rw[hem,hw0] at c18
 have C:=zH (body5 h0 (by omega) hb)
 have HW:=zH hw0
 have F0:=zH f0
 have S0:=zH s0
 have B0:=zH b0
 obtain⟨d,hdd⟩:∃d,d=p.dm:=⟨_,rfl⟩
 have HD:=zH hdd
 clear h hb hem f0 h0 hw0 b0 hdd
 go_enter Tryz.func120,Tryz.ntmps120
 go_upto_region 3 with fail
 rw[←HW.out]
 go_wp2_with (go_at_call 197;refine C.out.mono ?_;rintro e w1 ⟨g,n,c,rfl,h1⟩;rw[←HD.out];have hb1:w1.heap[w.heap.size]?=some (.cells #[.slice none 0 0,.int .u8 0] 134 (0,0)):=wrap_block h1.out S0.out B0.out;have r0:w1.cell? ⟨w.heap.size,0,none⟩=some (.slice none 0 0):=(by rw[zC hb1];rfl);have r1:w1.cell? ⟨w.heap.size,1,none⟩=some (.int .u8 0):=(by rw[zC hb1];rfl);have rf:∀i,w1.frozen? ⟨w.heap.size,i,none⟩=false:=fun i=>zF hb1 i)
 refine bodyPost_ret (v:=.tuple #[.agg #[.slice (some ⟨g,0,none⟩) n c,.int .u8 d],.nilIface]) (by simp[results,Tryz.f120,go_sem,r0,r1]) rfl ?_
 exact⟨g,n,c,by rw[HD.out],zH (h1.out.wrap S0.out F0.out (((Fr.refl _ w1).setR (.slice (some ⟨g,0,none⟩) n c)).setR (.int .u8 d)) (by omega) (by omega))⟩
theorem wrap6{pb tb tf tc:Nat}{T:List UInt8}{p:Pr}{w:World}(h:PrAt pb tb tf tc T p w)(htw:tb < w.heap.size)(hem:p.em=false){s:Sh}{ps:List Int}(hb:Bd1 6 T p s ps):
  Calls Tryz.prog 121 #[.pointer (some ⟨pb,0,none⟩)] w (KP3 6 pb tb tf tc T p s w):=by
 have hpb:=h.lt
 obtain⟨w0,hw0⟩:∃w0,w0=w.alloc (.cells #[.slice none 0 0,.int .u8 0] 139):=⟨_,rfl⟩
 have f0:ZF w w0:=by rw[hw0];exact (Fr.refl _ w).alloc _
 have s0:w0.heap.size=w.heap.size+1:=by rw[hw0];show (w.heap.push _).size=_;rw[Array.size_push]
 have b0:w0.heap[w.heap.size]?=some (.cells #[.slice none 0 0,.int .u8 0] 139 (0,0)):=by rw[hw0];exact zN w _
 have h0:=h.keep f0
 have c18:=h0.c18
 rw[hem,hw0] at c18
 have C:=zH (body6 h0 (by omega) hb)
 have HW:=zH hw0
 have F0:=zH f0
 have S0:=zH s0
 have B0:=zH b0
 obtain⟨d,hdd⟩:∃d,d=p.dm:=⟨_,rfl⟩
 have HD:=zH hdd
 clear h hb hem f0 h0 hw0 b0 hdd
 go_enter Tryz.func121,Tryz.ntmps121
 go_upto_region 3 with fail
 rw[←HW.out]
 go_wp2_with (go_at_call 198;refine C.out.mono ?_;rintro e w1 ⟨g,n,c,rfl,h1⟩;rw[←HD.out];have hb1:w1.heap[w.heap.size]?=some (.cells #[.slice none 0 0,.int .u8 0] 139 (0,0)):=wrap_block h1.out S0.out B0.out;have r0:w1.cell? ⟨w.heap.size,0,none⟩=some (.slice none 0 0):=(by rw[zC hb1];rfl);have r1:w1.cell? ⟨w.heap.size,1,none⟩=some (.int .u8 0):=(by rw[zC hb1];rfl);have rf:∀i,w1.frozen? ⟨w.heap.size,i,none⟩=false:=fun i=>zF hb1 i)
 refine bodyPost_ret (v:=.tuple #[.agg #[.slice (some ⟨g,0,none⟩) n c,.int .u8 d],.nilIface]) (by simp[results,Tryz.f121,go_sem,r0,r1]) rfl ?_
 exact⟨g,n,c,by rw[HD.out],zH (h1.out.wrap S0.out F0.out (((Fr.refl _ w1).setR (.slice (some ⟨g,0,none⟩) n c)).setR (.int .u8 d)) (by omega) (by omega))⟩
open Go.RowKit
def GmE (k tid d:Nat) (s:Sh) (P:Nat→Prop) (w:World) (h:Nat):Prop:=P h∧∃cs:List Value,w.heap[h]?=some (.cells cs.toArray tid (0,0))∧ShE k d s P w cs
theorem GmE.kept{k tid d:Nat}{s:Sh}{P:Nat→Prop}{w w':World}{h:Nat}(hg:GmE k tid d s P w h)(hq:∀b,P b→b < w.heap.size→w'.heap[b]?=w.heap[b]?):GmE k tid d s P w' h:=by
 obtain⟨h1,cs,h2,h3⟩:=hg
 exact⟨h1,cs,(hq h h1 (zG h2).1).trans h2,h3.kept hq⟩
theorem gm_block{k pb tb tf tc:Nat}{T:List UInt8}{p:Pr}{s:Sh}{B:Nat}{w0 w1 w2:World}{cs:List Value}{o:Obj}(h:Kd k pb tb tf tc T p s w1 cs w2)(f:Fr (Eq pb) w0 w1)(s0:w0.heap.size=B+1)(b0:w0.heap[B]?=some o)(hpb:pb < B):w2.heap[B]?=some o:=by
 obtain⟨p',_,h3,_⟩:=h
 have:=f.size
 exact (h3.block B (by omega) (by omega)).trans ((f.block B (by omega) (by omega)).trans b0)
def GmPost (k ty tid:Nat) (pb tb tf tc:Nat) (T:List UInt8) (c dim:Nat) (s:Sh) (w:World) (e:Ending) (w':World):Prop :=
 ∃h:Nat,e=.returned (.tuple #[.agg #[.int .i64 k,.iface ty (.pointer (some ⟨h,0,none⟩))],.nilIface])∧Hid (∃p':Pr,PrAt pb tb tf tc T p' w'∧Fr (Eq pb) w w'∧GmE k tid dim s (fun b=>w.heap.size≤b) w' h∧p'.bb=(c % 2 == 1)∧∃(a:Option Addr) (n c:Nat),p'.iv=.slice a n c)
theorem gm_end{k tid pb tb tf tc d c:Nat}{T:List UInt8}{p1:Pr}{s:Sh}{w w0 w1 w2 w3:World}{cs:List Value}(A:Obj)(hk:Kd k pb tb tf tc T p1 s w1 cs w2)(s0:w0.heap.size=w.heap.size+1)(f0:ZF w w0)(f1:Fr (Eq pb) w0 w1)(f:Fr (Eq w.heap.size) ((w2.alloc A).alloc (.cells cs.toArray tid)) w3)(hpb:pb < w.heap.size)(htw:tb < w.heap.size)(hd:p1.dm=d)(hbb:p1.bb=(c % 2 == 1)):
  ∃p':Pr,PrAt pb tb tf tc T p' w3∧Fr (Eq pb) w w3∧GmE k tid d s (fun b=>w.heap.size≤b) w3 (w2.alloc A).heap.size∧p'.bb=(c % 2 == 1)∧∃(a:Option Addr) (n c:Nat),p'.iv=.slice a n c:=by
 obtain⟨p',h1,h2,h3,h4,h5,h6⟩:=hk
 have fA:Fr (Eq w.heap.size) w2 ((w2.alloc A).alloc (.cells cs.toArray tid)):=((Fr.refl _ w2).alloc _).alloc _
 have sz2:=h2.size
 have sz1:=f1.size
 have sA:(w2.alloc A).heap.size=w2.heap.size+1:=by show (w2.heap.push _).size=_;rw[Array.size_push]
 have bn:((w2.alloc A).alloc (.cells cs.toArray tid)).heap[(w2.alloc A).heap.size]?=some (.cells cs.toArray tid (0,0)):=zN _ _
 have hlt:=(zG bn).1
 rw[hd] at h3
 refine⟨p',h1.fr (fA.trans f) (by omega) (by omega),(((f0.weak (fun _ h=>h.elim)).trans f1).trans h2).transNew (fA.trans f) (fun b e=>.inl (by omega)),⟨by show w.heap.size≤_;omega,cs,(f.block _ hlt (by omega)).trans bn,?_⟩,by rw[h4,hbb],h6⟩
 exact (h3.kept (fun b hb hl=>(fA.trans f).block b hl (by omega))).mono (fun b hb _=>by omega)
theorem geom50_1{pb tb tf tc:Nat}{T:List UInt8}{p:Pr}{w:World}(h:PrAt pb tb tf tc T p w)(htw:tb < w.heap.size)(ht:TenTab w)(hp3:3≤pb)(h0:Pr0 p)(hiv:p.iv=.slice none 0 0){c dim mx:Nat}{xy:Int}{ps is Q:List Int}{l0 l':List UInt8}{s:Sh}(hh:HeadP T 1 c dim xy ps l0)(hxy:0≤xy)(hem:(c / 16 % 2 == 1)=false)(hmx:mx≤5000)(hrf:RfOk p.rf Q)(hb:BodyP mx 1 (c / 4 % 2 == 1) ps Q l0 s is l')(hne:NE s):
  Calls Tryz.prog 50 #[.pointer (some ⟨pb,0,none⟩)] w (GmPost 1 208 115 pb tb tf tc T c dim s w):=by
 have hpb:=h.lt
 obtain⟨w0,hw0⟩:∃w0,w0=w.alloc (.cells #[.int .i64 0,.nilIface] 56):=⟨_,rfl⟩
 have f0:ZF w w0:=by rw[hw0];exact (Fr.refl _ w).alloc _
 have s0:w0.heap.size=w.heap.size+1:=by rw[hw0];show (w.heap.push _).size=_;rw[Array.size_push]
 have b0:w0.heap[w.heap.size]?=some (.cells #[.int .i64 0,.nilIface] 56 (0,0)):=by rw[hw0];exact zN w _
 have C115:=zH (head115 (h.keep f0) (by omega) (ht.fr f0 (fun h=>h) (fun h=>h)) hp3 h0 hh hxy)
 have HW:=zH hw0
 have F0:=zH f0
 have S0:=zH s0
 have B0:=zH b0
 obtain⟨Q',hq⟩:=hb
 have HQ:=zH (⟨hmx,hrf,hq⟩:_∧_∧_)
 have HI:=zH (⟨hiv,hem,hne⟩:_∧_∧_)
 have hsf:=st_fl
 clear h ht h0 hiv hh hxy hem hmx hrf hq hne hw0 f0 s0 b0
 go_enter Tryz.func50,Tryz.ntmps50
 go_upto_region 1 with fail
 rw[←HW.out]
 go_upto_region 2 with (go_at_call 115;refine C115.out.mono ?_;rintro e w1 ⟨rfl,p1,h1⟩)
 have c2:=h1.out.1.c2
 rw[h1.out.2.2.1.kind] at c2
 have W:=zH (wrap1 (s:=s) (ps:=ps) h1.out.1 (by have:=h1.out.2.1.size;have:=S0.out;omega) (by rw[h1.out.2.2.1.em];exact HI.out.2.1) ⟨h1.out.2.2.1.sc,h1.out.2.2.1.ok,by rw[h1.out.2.2.1.iv];exact HI.out.1,⟨Q,mx,is,Q',l',HQ.out.1,by rw[h1.out.2.2.1.rf];exact HQ.out.2.1,by rw[h1.out.2.2.1.ix,←h1.out.2.2.2.1];exact HQ.out.2.2⟩,HI.out.2.2⟩)
 obtain⟨d,hdd⟩:∃d,d=p1.dm:=⟨_,rfl⟩
 have HD:=zH hdd
 clear hdd
 have s1:w.heap.size < w1.heap.size:=by have:=h1.out.2.1.size;have:=S0.out;omega
 have A:=zH ac78
 go_upto_region 9 with first|(go_at_call 116;refine W.out.mono ?_;rintro e w2 ⟨x,y,z,m,rfl,h2⟩;rw[←HD.out];have hb2:w2.heap[w.heap.size]?=some (.cells #[.int .i64 0,.nilIface] 56 (0,0)):=gm_block h2.out h1.out.2.1 S0.out B0.out hpb)
 have r0:∀A B C,(((w2.alloc A).alloc B).alloc C).cell? ⟨w.heap.size,0,none⟩=some (.int .i64 0):=fun A B C=>by rw[zC (al3 hb2 A B C)];rfl
 have r1:∀A B C,(((w2.alloc A).alloc B).alloc C).cell? ⟨w.heap.size,1,none⟩=some .nilIface:=fun A B C=>by rw[zC (al3 hb2 A B C)];rfl
 have rf:∀A B C i,(((w2.alloc A).alloc B).alloc C).frozen? ⟨w.heap.size,i,none⟩=false:=fun A B C i=>zF (al3 hb2 A B C) i
 have s2:w.heap.size < w2.heap.size:=(zG hb2).1
 go_wp2_with (go_at_call 78;refine (A.out _ _ _ _ _ _ _).mono ?_;rintro e w3 ⟨rfl,rfl⟩)
 refine bodyPost_ret (v:=.tuple #[.agg #[.int .i64 1,.iface 208 (.pointer (some ⟨(w2.alloc (.cells #[.float .f64 x,.float .f64 y,.float .f64 z,.float .f64 m,.int .u8 d,.bool true] 115)).heap.size,0,none⟩))],.nilIface]) (by simp[results,Tryz.f50,go_sem,r0,r1]) rfl ?_
 have h3:=h2.out
 rw[←HD.out] at h3
 refine⟨_,rfl,zH (gm_end (.cells #[.float .f64 x,.float .f64 y,.float .f64 z,.float .f64 m,.int .u8 d,.bool true] 115) h3 S0.out F0.out h1.out.2.1 ?_ hpb htw h1.out.2.2.1.dm h1.out.2.2.1.bb)⟩
 exact (((Fr.refl _ _).alloc _).setR _).setR _
theorem geom50_2{pb tb tf tc:Nat}{T:List UInt8}{p:Pr}{w:World}(h:PrAt pb tb tf tc T p w)(htw:tb < w.heap.size)(ht:TenTab w)(hp3:3≤pb)(h0:Pr0 p)(hiv:p.iv=.slice none 0 0){c dim mx:Nat}{xy:Int}{ps is Q:List Int}{l0 l':List UInt8}{s:Sh}(hh:HeadP T 2 c dim xy ps l0)(hxy:0≤xy)(hem:(c / 16 % 2 == 1)=false)(hmx:mx≤5000)(hrf:RfOk p.rf Q)(hb:BodyP mx 2 (c / 4 % 2 == 1) ps Q l0 s is l')(hne:NE s):
  Calls Tryz.prog 50 #[.pointer (some ⟨pb,0,none⟩)] w (GmPost 2 211 121 pb tb tf tc T c dim s w):=by
 have hpb:=h.lt
 obtain⟨w0,hw0⟩:∃w0,w0=w.alloc (.cells #[.int .i64 0,.nilIface] 56):=⟨_,rfl⟩
 have f0:ZF w w0:=by rw[hw0];exact (Fr.refl _ w).alloc _
 have s0:w0.heap.size=w.heap.size+1:=by rw[hw0];show (w.heap.push _).size=_;rw[Array.size_push]
 have b0:w0.heap[w.heap.size]?=some (.cells #[.int .i64 0,.nilIface] 56 (0,0)):=by rw[hw0];exact zN w _
 have C115:=zH (head115 (h.keep f0) (by omega) (ht.fr f0 (fun h=>h) (fun h=>h)) hp3 h0 hh hxy)
 have HW:=zH hw0
 have F0:=zH f0
 have S0:=zH s0
 have B0:=zH b0
 obtain⟨Q',hq⟩:=hb
 have HQ:=zH (⟨hmx,hrf,hq⟩:_∧_∧_)
 have HI:=zH (⟨hiv,hem,hne⟩:_∧_∧_)
 clear h ht h0 hiv hh hxy hem hmx hrf hq hne hw0 f0 s0 b0
 go_enter Tryz.func50,Tryz.ntmps50
 go_upto_region 1 with fail
 rw[←HW.out]
 go_upto_region 2 with (go_at_call 115;refine C115.out.mono ?_;rintro e w1 ⟨rfl,p1,h1⟩)
 have c2:=h1.out.1.c2
 rw[h1.out.2.2.1.kind] at c2
 have W:=zH (wrap2 (s:=s) (ps:=ps) h1.out.1 (by have:=h1.out.2.1.size;have:=S0.out;omega) (by rw[h1.out.2.2.1.em];exact HI.out.2.1) ⟨h1.out.2.2.1.sc,h1.out.2.2.1.ok,by rw[h1.out.2.2.1.iv];exact HI.out.1,⟨Q,mx,is,Q',l',HQ.out.1,by rw[h1.out.2.2.1.rf];exact HQ.out.2.1,by rw[h1.out.2.2.1.ix,←h1.out.2.2.2.1];exact HQ.out.2.2⟩,HI.out.2.2⟩)
 obtain⟨d,hdd⟩:∃d,d=p1.dm:=⟨_,rfl⟩
 have HD:=zH hdd
 clear hdd
 have s1:w.heap.size < w1.heap.size:=by have:=h1.out.2.1.size;have:=S0.out;omega
 have A:=zH ac80
 go_upto_region 14 with first|(go_at_call 117;refine W.out.mono ?_;rintro e w2 ⟨g,n,c1,rfl,h2⟩;rw[←HD.out];have hb2:w2.heap[w.heap.size]?=some (.cells #[.int .i64 0,.nilIface] 56 (0,0)):=gm_block h2.out h1.out.2.1 S0.out B0.out hpb)
 have r0:∀A B C,(((w2.alloc A).alloc B).alloc C).cell? ⟨w.heap.size,0,none⟩=some (.int .i64 0):=fun A B C=>by rw[zC (al3 hb2 A B C)];rfl
 have r1:∀A B C,(((w2.alloc A).alloc B).alloc C).cell? ⟨w.heap.size,1,none⟩=some .nilIface:=fun A B C=>by rw[zC (al3 hb2 A B C)];rfl
 have rf:∀A B C i,(((w2.alloc A).alloc B).alloc C).frozen? ⟨w.heap.size,i,none⟩=false:=fun A B C i=>zF (al3 hb2 A B C) i
 have s2:w.heap.size < w2.heap.size:=(zG hb2).1
 go_wp2_with (go_at_call 80;refine (A.out _ _ _ _ _ _).mono ?_;rintro e w3 ⟨rfl,rfl⟩)
 refine bodyPost_ret (v:=.tuple #[.agg #[.int .i64 2,.iface 211 (.pointer (some ⟨(w2.alloc (.cells #[.int .u8 d,.slice (some ⟨g,0,none⟩) n c1] 121)).heap.size,0,none⟩))],.nilIface]) (by simp[results,Tryz.f50,go_sem,r0,r1]) rfl ?_
 have h3:=h2.out
 rw[←HD.out] at h3
 refine⟨_,rfl,zH (gm_end (.cells #[.int .u8 d,.slice (some ⟨g,0,none⟩) n c1] 121) h3 S0.out F0.out h1.out.2.1 ?_ hpb htw h1.out.2.2.1.dm h1.out.2.2.1.bb)⟩
 exact (((Fr.refl _ _).alloc _).setR _).setR _
theorem geom50_3{pb tb tf tc:Nat}{T:List UInt8}{p:Pr}{w:World}(h:PrAt pb tb tf tc T p w)(htw:tb < w.heap.size)(ht:TenTab w)(hp3:3≤pb)(h0:Pr0 p)(hiv:p.iv=.slice none 0 0){c dim mx:Nat}{xy:Int}{ps is Q:List Int}{l0 l':List UInt8}{s:Sh}(hh:HeadP T 3 c dim xy ps l0)(hxy:0≤xy)(hem:(c / 16 % 2 == 1)=false)(hmx:mx≤5000)(hrf:RfOk p.rf Q)(hb:BodyP mx 3 (c / 4 % 2 == 1) ps Q l0 s is l')(hne:NE s):
  Calls Tryz.prog 50 #[.pointer (some ⟨pb,0,none⟩)] w (GmPost 3 213 126 pb tb tf tc T c dim s w):=by
 have hpb:=h.lt
 obtain⟨w0,hw0⟩:∃w0,w0=w.alloc (.cells #[.int .i64 0,.nilIface] 56):=⟨_,rfl⟩
 have f0:ZF w w0:=by rw[hw0];exact (Fr.refl _ w).alloc _
 have s0:w0.heap.size=w.heap.size+1:=by rw[hw0];show (w.heap.push _).size=_;rw[Array.size_push]
 have b0:w0.heap[w.heap.size]?=some (.cells #[.int .i64 0,.nilIface] 56 (0,0)):=by rw[hw0];exact zN w _
 have C115:=zH (head115 (h.keep f0) (by omega) (ht.fr f0 (fun h=>h) (fun h=>h)) hp3 h0 hh hxy)
 have HW:=zH hw0
 have F0:=zH f0
 have S0:=zH s0
 have B0:=zH b0
 obtain⟨Q',hq⟩:=hb
 have HQ:=zH (⟨hmx,hrf,hq⟩:_∧_∧_)
 have HI:=zH (⟨hiv,hem,hne⟩:_∧_∧_)
 clear h ht h0 hiv hh hxy hem hmx hrf hq hne hw0 f0 s0 b0
 go_enter Tryz.func50,Tryz.ntmps50
 go_upto_region 1 with fail
 rw[←HW.out]
 go_upto_region 2 with (go_at_call 115;refine C115.out.mono ?_;rintro e w1 ⟨rfl,p1,h1⟩)
 have c2:=h1.out.1.c2
 rw[h1.out.2.2.1.kind] at c2
 have W:=zH (wrap3 (s:=s) (ps:=ps) h1.out.1 (by have:=h1.out.2.1.size;have:=S0.out;omega) (by rw[h1.out.2.2.1.em];exact HI.out.2.1) ⟨h1.out.2.2.1.sc,h1.out.2.2.1.ok,by rw[h1.out.2.2.1.iv];exact HI.out.1,⟨Q,mx,is,Q',l',HQ.out.1,by rw[h1.out.2.2.1.rf];exact HQ.out.2.1,by rw[h1.out.2.2.1.ix,←h1.out.2.2.2.1];exact HQ.out.2.2⟩,HI.out.2.2⟩)
 obtain⟨d,hdd⟩:∃d,d=p1.dm:=⟨_,rfl⟩
 have HD:=zH hdd
 clear hdd
 have s1:w.heap.size < w1.heap.size:=by have:=h1.out.2.1.size;have:=S0.out;omega
 have A:=zH ac82
 go_upto_region 19 with first|(go_at_call 118;refine W.out.mono ?_;rintro e w2 ⟨g,n,c1,rfl,h2⟩;rw[←HD.out];have hb2:w2.heap[w.heap.size]?=some (.cells #[.int .i64 0,.nilIface] 56 (0,0)):=gm_block h2.out h1.out.2.1 S0.out B0.out hpb)
 have r0:∀A B C,(((w2.alloc A).alloc B).alloc C).cell? ⟨w.heap.size,0,none⟩=some (.int .i64 0):=fun A B C=>by rw[zC (al3 hb2 A B C)];rfl
 have r1:∀A B C,(((w2.alloc A).alloc B).alloc C).cell? ⟨w.heap.size,1,none⟩=some .nilIface:=fun A B C=>by rw[zC (al3 hb2 A B C)];rfl
 have rf:∀A B C i,(((w2.alloc A).alloc B).alloc C).frozen? ⟨w.heap.size,i,none⟩=false:=fun A B C i=>zF (al3 hb2 A B C) i
 have s2:w.heap.size < w2.heap.size:=(zG hb2).1
 go_wp2_with (go_at_call 82;refine (A.out _ _ _ _ _ _).mono ?_;rintro e w3 ⟨rfl,rfl⟩)
 refine bodyPost_ret (v:=.tuple #[.agg #[.int .i64 3,.iface 213 (.pointer (some ⟨(w2.alloc (.cells #[.slice (some ⟨g,0,none⟩) n c1,.int .u8 d] 126)).heap.size,0,none⟩))],.nilIface]) (by simp[results,Tryz.f50,go_sem,r0,r1]) rfl ?_
 have h3:=h2.out
 rw[←HD.out] at h3
 refine⟨_,rfl,zH (gm_end (.cells #[.slice (some ⟨g,0,none⟩) n c1,.int .u8 d] 126) h3 S0.out F0.out h1.out.2.1 ?_ hpb htw h1.out.2.2.1.dm h1.out.2.2.1.bb)⟩
 exact (((Fr.refl _ _).alloc _).setR _).setR _
theorem geom50_4{pb tb tf tc:Nat}{T:List UInt8}{p:Pr}{w:World}(h:PrAt pb tb tf tc T p w)(htw:tb < w.heap.size)(ht:TenTab w)(hp3:3≤pb)(h0:Pr0 p)(hiv:p.iv=.slice none 0 0){c dim mx:Nat}{xy:Int}{ps is Q:List Int}{l0 l':List UInt8}{s:Sh}(hh:HeadP T 4 c dim xy ps l0)(hxy:0≤xy)(hem:(c / 16 % 2 == 1)=false)(hmx:mx≤5000)(hrf:RfOk p.rf Q)(hb:BodyP mx 4 (c / 4 % 2 == 1) ps Q l0 s is l')(hne:NE s):
  Calls Tryz.prog 50 #[.pointer (some ⟨pb,0,none⟩)] w (GmPost 4 215 130 pb tb tf tc T c dim s w):=by
 have hpb:=h.lt
 obtain⟨w0,hw0⟩:∃w0,w0=w.alloc (.cells #[.int .i64 0,.nilIface] 56):=⟨_,rfl⟩
 have f0:ZF w w0:=by rw[hw0];exact (Fr.refl _ w).alloc _
 have s0:w0.heap.size=w.heap.size+1:=by rw[hw0];show (w.heap.push _).size=_;rw[Array.size_push]
 have b0:w0.heap[w.heap.size]?=some (.cells #[.int .i64 0,.nilIface] 56 (0,0)):=by rw[hw0];exact zN w _
 have C115:=zH (head115 (h.keep f0) (by omega) (ht.fr f0 (fun h=>h) (fun h=>h)) hp3 h0 hh hxy)
 have HW:=zH hw0
 have F0:=zH f0
 have S0:=zH s0
 have B0:=zH b0
 obtain⟨Q',hq⟩:=hb
 have HQ:=zH (⟨hmx,hrf,hq⟩:_∧_∧_)
 have HI:=zH (⟨hiv,hem,hne⟩:_∧_∧_)
 clear h ht h0 hiv hh hxy hem hmx hrf hq hne hw0 f0 s0 b0
 go_enter Tryz.func50,Tryz.ntmps50
 go_upto_region 1 with fail
 rw[←HW.out]
 go_upto_region 2 with (go_at_call 115;refine C115.out.mono ?_;rintro e w1 ⟨rfl,p1,h1⟩)
 have c2:=h1.out.1.c2
 rw[h1.out.2.2.1.kind] at c2
 have W:=zH (wrap4 (s:=s) (ps:=ps) h1.out.1 (by have:=h1.out.2.1.size;have:=S0.out;omega) (by rw[h1.out.2.2.1.em];exact HI.out.2.1) ⟨h1.out.2.2.1.sc,h1.out.2.2.1.ok,by rw[h1.out.2.2.1.iv];exact HI.out.1,⟨Q,mx,is,Q',l',HQ.out.1,by rw[h1.out.2.2.1.rf];exact HQ.out.2.1,by rw[h1.out.2.2.1.ix,←h1.out.2.2.2.1];exact HQ.out.2.2⟩,HI.out.2.2⟩)
 obtain⟨d,hdd⟩:∃d,d=p1.dm:=⟨_,rfl⟩
 have HD:=zH hdd
 clear hdd
 have s1:w.heap.size < w1.heap.size:=by have:=h1.out.2.1.size;have:=S0.out;omega
 have A:=zH ac84
 go_upto_region 24 with first|(go_at_call 119;refine W.out.mono ?_;rintro e w2 ⟨g,n,c1,rfl,h2⟩;rw[←HD.out];have hb2:w2.heap[w.heap.size]?=some (.cells #[.int .i64 0,.nilIface] 56 (0,0)):=gm_block h2.out h1.out.2.1 S0.out B0.out hpb)
 have r0:∀A B C,(((w2.alloc A).alloc B).alloc C).cell? ⟨w.heap.size,0,none⟩=some (.int .i64 0):=fun A B C=>by rw[zC (al3 hb2 A B C)];rfl
 have r1:∀A B C,(((w2.alloc A).alloc B).alloc C).cell? ⟨w.heap.size,1,none⟩=some .nilIface:=fun A B C=>by rw[zC (al3 hb2 A B C)];rfl
 have rf:∀A B C i,(((w2.alloc A).alloc B).alloc C).frozen? ⟨w.heap.size,i,none⟩=false:=fun A B C i=>zF (al3 hb2 A B C) i
 have s2:w.heap.size < w2.heap.size:=(zG hb2).1
 go_wp2_with (go_at_call 84;refine (A.out _ _ _ _ _ _).mono ?_;rintro e w3 ⟨rfl,rfl⟩)
 refine bodyPost_ret (v:=.tuple #[.agg #[.int .i64 4,.iface 215 (.pointer (some ⟨(w2.alloc (.cells #[.slice (some ⟨g,0,none⟩) n c1,.int .u8 d] 130)).heap.size,0,none⟩))],.nilIface]) (by simp[results,Tryz.f50,go_sem,r0,r1]) rfl ?_
 have h3:=h2.out
 rw[←HD.out] at h3
 refine⟨_,rfl,zH (gm_end (.cells #[.slice (some ⟨g,0,none⟩) n c1,.int .u8 d] 130) h3 S0.out F0.out h1.out.2.1 ?_ hpb htw h1.out.2.2.1.dm h1.out.2.2.1.bb)⟩
 exact (((Fr.refl _ _).alloc _).setR _).setR _
theorem geom50_5{pb tb tf tc:Nat}{T:List UInt8}{p:Pr}{w:World}(h:PrAt pb tb tf tc T p w)(htw:tb < w.heap.size)(ht:TenTab w)(hp3:3≤pb)(h0:Pr0 p)(hiv:p.iv=.slice none 0 0){c dim mx:Nat}{xy:Int}{ps is Q:List Int}{l0 l':List UInt8}{s:Sh}(hh:HeadP T 5 c dim xy ps l0)(hxy:0≤xy)(hem:(c / 16 % 2 == 1)=false)(hmx:mx≤5000)(hrf:RfOk p.rf Q)(hb:BodyP mx 5 (c / 4 % 2 == 1) ps Q l0 s is l')(hne:NE s):
  Calls Tryz.prog 50 #[.pointer (some ⟨pb,0,none⟩)] w (GmPost 5 217 134 pb tb tf tc T c dim s w):=by
 have hpb:=h.lt
 obtain⟨w0,hw0⟩:∃w0,w0=w.alloc (.cells #[.int .i64 0,.nilIface] 56):=⟨_,rfl⟩
 have f0:ZF w w0:=by rw[hw0];exact (Fr.refl _ w).alloc _
 have s0:w0.heap.size=w.heap.size+1:=by rw[hw0];show (w.heap.push _).size=_;rw[Array.size_push]
 have b0:w0.heap[w.heap.size]?=some (.cells #[.int .i64 0,.nilIface] 56 (0,0)):=by rw[hw0];exact zN w _
 have C115:=zH (head115 (h.keep f0) (by omega) (ht.fr f0 (fun h=>h) (fun h=>h)) hp3 h0 hh hxy)
 have HW:=zH hw0
 have F0:=zH f0
 have S0:=zH s0
 have B0:=zH b0
 obtain⟨Q',hq⟩:=hb
 have HQ:=zH (⟨hmx,hrf,hq⟩:_∧_∧_)
 have HI:=zH (⟨hiv,hem,hne⟩:_∧_∧_)
 clear h ht h0 hiv hh hxy hem hmx hrf hq hne hw0 f0 s0 b0
 go_enter Tryz.func50,Tryz.ntmps50
 go_upto_region 1 with fail
 rw[←HW.out]
 go_upto_region 2 with (go_at_call 115;refine C115.out.mono ?_;rintro e w1 ⟨rfl,p1,h1⟩)
 have c2:=h1.out.1.c2
 rw[h1.out.2.2.1.kind] at c2
 have W:=zH (wrap5 (s:=s) (ps:=ps) h1.out.1 (by have:=h1.out.2.1.size;have:=S0.out;omega) (by rw[h1.out.2.2.1.em];exact HI.out.2.1) ⟨h1.out.2.2.1.sc,h1.out.2.2.1.ok,by rw[h1.out.2.2.1.iv];exact HI.out.1,⟨Q,mx,is,Q',l',HQ.out.1,by rw[h1.out.2.2.1.rf];exact HQ.out.2.1,by rw[h1.out.2.2.1.ix,←h1.out.2.2.2.1];exact HQ.out.2.2⟩,HI.out.2.2⟩)
 obtain⟨d,hdd⟩:∃d,d=p1.dm:=⟨_,rfl⟩
 have HD:=zH hdd
 clear hdd
 have s1:w.heap.size < w1.heap.size:=by have:=h1.out.2.1.size;have:=S0.out;omega
 have A:=zH ac86
 go_upto_region 29 with first|(go_at_call 120;refine W.out.mono ?_;rintro e w2 ⟨g,n,c1,rfl,h2⟩;rw[←HD.out];have hb2:w2.heap[w.heap.size]?=some (.cells #[.int .i64 0,.nilIface] 56 (0,0)):=gm_block h2.out h1.out.2.1 S0.out B0.out hpb)
 have r0:∀A B C,(((w2.alloc A).alloc B).alloc C).cell? ⟨w.heap.size,0,none⟩=some (.int .i64 0):=fun A B C=>by rw[zC (al3 hb2 A B C)];rfl
 have r1:∀A B C,(((w2.alloc A).alloc B).alloc C).cell? ⟨w.heap.size,1,none⟩=some .nilIface:=fun A B C=>by rw[zC (al3 hb2 A B C)];rfl
 have rf:∀A B C i,(((w2.alloc A).alloc B).alloc C).frozen? ⟨w.heap.size,i,none⟩=false:=fun A B C i=>zF (al3 hb2 A B C) i
 have s2:w.heap.size < w2.heap.size:=(zG hb2).1
 go_wp2_with (go_at_call 86;refine (A.out _ _ _ _ _ _).mono ?_;rintro e w3 ⟨rfl,rfl⟩)
 refine bodyPost_ret (v:=.tuple #[.agg #[.int .i64 5,.iface 217 (.pointer (some ⟨(w2.alloc (.cells #[.slice (some ⟨g,0,none⟩) n c1,.int .u8 d] 134)).heap.size,0,none⟩))],.nilIface]) (by simp[results,Tryz.f50,go_sem,r0,r1]) rfl ?_
 have h3:=h2.out
 rw[←HD.out] at h3
 refine⟨_,rfl,zH (gm_end (.cells #[.slice (some ⟨g,0,none⟩) n c1,.int .u8 d] 134) h3 S0.out F0.out h1.out.2.1 ?_ hpb htw h1.out.2.2.1.dm h1.out.2.2.1.bb)⟩
 exact (((Fr.refl _ _).alloc _).setR _).setR _
theorem geom50_6{pb tb tf tc:Nat}{T:List UInt8}{p:Pr}{w:World}(h:PrAt pb tb tf tc T p w)(htw:tb < w.heap.size)(ht:TenTab w)(hp3:3≤pb)(h0:Pr0 p)(hiv:p.iv=.slice none 0 0){c dim mx:Nat}{xy:Int}{ps is Q:List Int}{l0 l':List UInt8}{s:Sh}(hh:HeadP T 6 c dim xy ps l0)(hxy:0≤xy)(hem:(c / 16 % 2 == 1)=false)(hmx:mx≤5000)(hrf:RfOk p.rf Q)(hb:BodyP mx 6 (c / 4 % 2 == 1) ps Q l0 s is l')(hne:NE s):
  Calls Tryz.prog 50 #[.pointer (some ⟨pb,0,none⟩)] w (GmPost 6 219 139 pb tb tf tc T c dim s w):=by
 have hpb:=h.lt
 obtain⟨w0,hw0⟩:∃w0,w0=w.alloc (.cells #[.int .i64 0,.nilIface] 56):=⟨_,rfl⟩
 have f0:ZF w w0:=by rw[hw0];exact (Fr.refl _ w).alloc _
 have s0:w0.heap.size=w.heap.size+1:=by rw[hw0];show (w.heap.push _).size=_;rw[Array.size_push]
 have b0:w0.heap[w.heap.size]?=some (.cells #[.int .i64 0,.nilIface] 56 (0,0)):=by rw[hw0];exact zN w _
 have C115:=zH (head115 (h.keep f0) (by omega) (ht.fr f0 (fun h=>h) (fun h=>h)) hp3 h0 hh hxy)
 have HW:=zH hw0
 have F0:=zH f0
 have S0:=zH s0
 have B0:=zH b0
 obtain⟨Q',hq⟩:=hb
 have HQ:=zH (⟨hmx,hrf,hq⟩:_∧_∧_)
 have HI:=zH (⟨hiv,hem,hne⟩:_∧_∧_)
 clear h ht h0 hiv hh hxy hem hmx hrf hq hne hw0 f0 s0 b0
 go_enter Tryz.func50,Tryz.ntmps50
 go_upto_region 1 with fail
 rw[←HW.out]
 go_upto_region 2 with (go_at_call 115;refine C115.out.mono ?_;rintro e w1 ⟨rfl,p1,h1⟩)
 have c2:=h1.out.1.c2
 rw[h1.out.2.2.1.kind] at c2
 have W:=zH (wrap6 (s:=s) (ps:=ps) h1.out.1 (by have:=h1.out.2.1.size;have:=S0.out;omega) (by rw[h1.out.2.2.1.em];exact HI.out.2.1) ⟨h1.out.2.2.1.sc,h1.out.2.2.1.ok,by rw[h1.out.2.2.1.iv];exact HI.out.1,⟨Q,mx,is,Q',l',HQ.out.1,by rw[h1.out.2.2.1.rf];exact HQ.out.2.1,by rw[h1.out.2.2.1.ix,←h1.out.2.2.2.1];exact HQ.out.2.2⟩,HI.out.2.2⟩)
 obtain⟨d,hdd⟩:∃d,d=p1.dm:=⟨_,rfl⟩
 have HD:=zH hdd
 clear hdd
 have s1:w.heap.size < w1.heap.size:=by have:=h1.out.2.1.size;have:=S0.out;omega
 have A:=zH ac88
 go_upto_region 34 with first|(go_at_call 121;refine W.out.mono ?_;rintro e w2 ⟨g,n,c1,rfl,h2⟩;rw[←HD.out];have hb2:w2.heap[w.heap.size]?=some (.cells #[.int .i64 0,.nilIface] 56 (0,0)):=gm_block h2.out h1.out.2.1 S0.out B0.out hpb)
 have r0:∀A B C,(((w2.alloc A).alloc B).alloc C).cell? ⟨w.heap.size,0,none⟩=some (.int .i64 0):=fun A B C=>by rw[zC (al3 hb2 A B C)];rfl
 have r1:∀A B C,(((w2.alloc A).alloc B).alloc C).cell? ⟨w.heap.size,1,none⟩=some .nilIface:=fun A B C=>by rw[zC (al3 hb2 A B C)];rfl
 have rf:∀A B C i,(((w2.alloc A).alloc B).alloc C).frozen? ⟨w.heap.size,i,none⟩=false:=fun A B C i=>zF (al3 hb2 A B C) i
 have s2:w.heap.size < w2.heap.size:=(zG hb2).1
 go_wp2_with (go_at_call 88;refine (A.out _ _ _ _ _ _).mono ?_;rintro e w3 ⟨rfl,rfl⟩)
 refine bodyPost_ret (v:=.tuple #[.agg #[.int .i64 6,.iface 219 (.pointer (some ⟨(w2.alloc (.cells #[.slice (some ⟨g,0,none⟩) n c1,.int .u8 d] 139)).heap.size,0,none⟩))],.nilIface]) (by simp[results,Tryz.f50,go_sem,r0,r1]) rfl ?_
 have h3:=h2.out
 rw[←HD.out] at h3
 refine⟨_,rfl,zH (gm_end (.cells #[.slice (some ⟨g,0,none⟩) n c1,.int .u8 d] 139) h3 S0.out F0.out h1.out.2.1 ?_ hpb htw h1.out.2.2.1.dm h1.out.2.2.1.bb)⟩
 exact (((Fr.refl _ _).alloc _).setR _).setR _
end Go.Proofs.YtnjjgbcmjnfijaaGreatDoor
