/- Trees of the reference: is it empty, is it whole, do all its numbers pass. No condition. -/
import Derived.Test.YtnjjgbcmjnfijaaGreatDoorGe
import Derived.Deep.AppendLies
import Derived.Deep.RegionHeld3
namespace Go.Proofs.YtnjjgbcmjnfijaaGreatDoor
set_option maxRecDepth 100000
set_option maxHeartbeats 8000000
open Go.RowKit
def isE:Nat→G→Bool
 | 0,_=>false
 | d+1,.mk k _ ns ks=>if k == 3 then ks.length == 0 else if ks.all (isE d) then ns.length == 0 else false
def isW:Nat→G→Bool
 | 0,_=>false
 | d+1,.mk k x ns ks=>if isE (d+1) (.mk k x ns ks) then false else ks.all (isW d)
theorem z_eq(n:Nat):((n:Int) == 0)=(n == 0):=by rw[Bool.eq_iff_iff];simp
def gv (k d:Int) (n m:Value):Value:=.agg #[.int .i64 k,.int .i64 d,n,m]
theorem GAt.parts{d:Nat}{P:Nat→Prop}{w:World}{cs:List Value}{g:G}(h:GAt (d+1) P w cs g):∃(k dm:Int) (na:Option Addr) (n nc:Nat) (ka:Option Addr) (m kc:Nat) (ns:List Nat) (ks:List G),g=.mk k dm ns ks∧cs=[.int .i64 k,.int .i64 dm,.slice na n nc,.slice ka m kc]∧n=ns.length∧m=ks.length∧n≤nc∧m≤kc∧n≤30000∧m≤4096∧0≤k∧k≤15∧0≤dm∧dm≤3∧NumsAt P w (.slice na n nc) ns∧RowsAt (GAt d) P 4 w (.slice ka m kc) ks:=by
 obtain⟨k,dm,ns,ks⟩:=g
 obtain⟨nv,kv,rfl,h1,h2,h3,h4,h5,h6,h7,h8⟩:=h
 obtain⟨ka,kc,rfl,hk,_⟩:=h2.at
 obtain⟨_,na,nc,rfl,hn,_⟩:=id h1
 exact⟨k,dm,na,_,nc,ka,_,kc,ns,ks,rfl,rfl,rfl,rfl,hn,hk,h3,h4,h5,h6,h7,h8,h1,h2⟩
theorem GAt.shape{d:Nat}{P:Nat→Prop}{w:World}{cs:List Value}{g:G}(h:GAt d P w cs g):∃(k dm:Int) (na:Option Addr) (n nc:Nat) (ka:Option Addr) (m kc:Nat),cs=[.int .i64 k,.int .i64 dm,.slice na n nc,.slice ka m kc]:=by
 cases d with
 | zero=>exact h.elim
 | succ d =>
  obtain⟨k,dm,na,n,nc,ka,m,kc,_,_,_,rfl,_⟩:=h.parts
  exact⟨_,_,_,_,_,_,_,_,rfl⟩
theorem kid_at{d:Nat}{P:Nat→Prop}{w:World}{v:Value}{ks:List G}(h:RowsAt (GAt d) P 4 w v ks){i:Nat}(hi:i < ks.length):∃(b o:Nat) (k dm:Int) (na:Option Addr) (n nc:Nat) (ka:Option Addr) (m kc:Nat),(∃cap,v=.slice (some ⟨b,o,none⟩) ks.length cap)∧b < w.heap.size∧P b∧GAt d P w [.int .i64 k,.int .i64 dm,.slice na n nc,.slice ka m kc] ks[i] ∧
  w.cell? ⟨b,o+i*4,none⟩=some (.int .i64 k)∧w.cell? ⟨b,o+i*4+1,none⟩=some (.int .i64 dm)∧w.cell? ⟨b,o+i*4+2,none⟩=some (.slice na n nc)∧w.cell? ⟨b,o+i*4+3,none⟩=some (.slice ka m kc):=by
 obtain⟨a,cap,rfl,_,hc⟩:=h.at
 obtain⟨b,o,c,rfl,hp,hl,he,hx⟩:=hc i hi
 obtain⟨k,dm,na,n,nc,ka,m,kc,rfl⟩:=he.shape
 have h0:=hx 0 _ rfl
 exact⟨b,o,k,dm,na,n,nc,ka,m,kc,⟨cap,rfl⟩,World.block_lt_of_cell? w _ h0,hp,he,h0,hx 1 _ rfl,hx 2 _ rfl,hx 3 _ rfl⟩
def BoolPost (b:Bool) (w:World) (e:Ending) (w':World):Prop:=e=.returned (.bool b)∧ZF w w'
structure TsAt (w:World) (bx:Array Value) (wx:World):Prop where
 fr:ZF w wx
 blk:wx.heap[w.heap.size]?=some (.cells bx 27 (0,0))
theorem TsAt.start(w:World)(bx:Array Value):TsAt w bx (w.alloc (.cells bx 27)):=⟨(Fr.refl _ w).alloc _,zN w _⟩
theorem TsAt.call{w:World}{bx:Array Value}{wx wy:World}{o:Obj}(h:TsAt w bx wx)(k:ZF (wx.alloc o) wy):TsAt w bx wy:=by
 have hp:=(zG h.blk).1
 have ha:(wx.alloc o).heap.size=wx.heap.size+1:=by show (wx.heap.push _).size=_;rw[Array.size_push]
 refine⟨(h.fr.alloc o).trans k,(k.block _ (by omega) (fun h=>h)).trans ((Below.heap_alloc wx o _ hp).trans h.blk)⟩
theorem TsAt.run{w:World}{bx:Array Value}{wx wy:World}(h:TsAt w bx wx)(k:ZF wx wy):TsAt w bx wy:=by
 have hp:=(zG h.blk).1
 exact⟨h.fr.trans k,(k.block _ hp (fun h=>h)).trans h.blk⟩
theorem RowsAt.under{α:Type}{E:(Nat→Prop)→World→List Value→α→Prop}(hE:Kp E){P:Nat→Prop}{s:Nat}{w w':World}{v:Value}{xs:List α}(h:RowsAt E P s w v xs)(f:ZF w w'):RowsAt E P s w' v xs:=h.kept hE (fun b _ hl=>f.block b hl (fun h=>h))
theorem all_take_snoc{α:Type}{f:α→Bool}{xs:List α}{i:Nat}(hi:i < xs.length)(h:(xs.take i).all f=true)(h2:f xs[i]=true):(xs.take (i+1)).all f=true:=by
 rw[List.take_succ_eq_append_getElem hi,List.all_append,h];simp[h2]
theorem all_not{α:Type}{f:α→Bool}{xs:List α}{i:Nat}(hi:i < xs.length)(h2:f xs[i]=false):xs.all f=false:=by
 rw[List.all_eq_false]
 exact⟨xs[i],List.getElem_mem hi,by simp[h2]⟩
theorem bx_cells{w1:World}{b:Nat}{v0 v1 v2 v3:Value}(h:w1.heap[b]?=some (.cells #[v0,v1,v2,v3] 27 (0,0))):
  w1.cell? ⟨b,0,none⟩=some v0∧w1.cell? ⟨b,1,none⟩=some v1∧w1.cell? ⟨b,2,none⟩=some v2∧w1.cell? ⟨b,3,none⟩=some v3:=by
 refine⟨?_,?_,?_,?_⟩<;>(rw[zC h];rfl)
theorem empty18:∀(d:Nat) (P:Nat→Prop) (w:World) (k dm:Int) (n m:Value) (g:G),GAt d P w [.int .i64 k,.int .i64 dm,n,m] g→Calls Tryz.prog 18 #[gv k dm n m] w (BoolPost (isE d g) w)
 | 0,_,_,_,_,_,_,_,h=>h.elim
 | d+1,P,w,k,dm,n,m,g,h=>by
  have IH:=zH (empty18 d P)
  obtain⟨k',dm',na,N,nc,ka,M,kc,ns,ks,rfl,e,hN,hM,hNc,hMc,hN3,hM4,_,_,_,_,_,hK⟩:=h.parts
  injection e with e1 e
  injection e1 with _ e1
  injection e with e2 e
  injection e2 with _ e2
  injection e with e3 e
  injection e with e4 _
  subst e1 e2 e3 e4
  have HK:=zH hK
  have HN:=zH hN
  have HM:=zH hM
  obtain⟨w0,hw0⟩:∃w0,w0=w.alloc (.cells #[.int .i64 k,.int .i64 dm,.slice na N nc,.slice ka M kc] 27):=⟨_,rfl⟩
  have H0:Hid (TsAt w #[.int .i64 k,.int .i64 dm,.slice na N nc,.slice ka M kc] w0):=by rw[hw0];exact TsAt.start _ _
  have HW0:=zH hw0
  obtain⟨p0,p1,p2,p3⟩:=bx_cells H0.out.blk
  clear h hK hN hM hw0
  unfold gv
  go_enter Tryz.func18,Tryz.ntmps18
  go_upto_region 1 with fail
  rw[←HW0.out]
  rcases hz3:(k == 3) with _|_
  ·go_wp2_with fail
   go_loopw [15] (fun iv wr=>∃(i:Nat),iv=.int .i64 (i:Int)∧i≤M∧Hid (TsAt w #[.int .i64 k,.int .i64 dm,.slice na N nc,.slice ka M kc] wr∧(ks.take i).all (isE d)=true)) (fun iv _=>M - (intOf iv).toNat)
   case atStart=>exact⟨0,rfl,Nat.zero_le _,H0.out,rfl⟩
   case round =>
    obtain⟨i,rfl,hi,hrel⟩:=hrel
    by_cases hlt:i < M
    ·obtain⟨b,o,k',dm',na',N',nc',ka',M',kc',⟨cap,hab⟩,hb,_,hE,c0,c1,c2,c3⟩:=kid_at HK.out (i:=i) (by rw[←HM.out];exact hlt)
     injection hab with hab hab2 hab3
     clear hab2 hab3
     subst hab
     have c0':=hrel.out.1.fr.cell c0 (by simp)
     have c1':=hrel.out.1.fr.cell c1 (by simp)
     have c2':=hrel.out.1.fr.cell c2 (by simp)
     have c3':=hrel.out.1.fr.cell c3 (by simp)
     clear c0 c1 c2 c3
     obtain⟨q,hq⟩:∃q,isE d (ks[i]'(by rw[←HM.out];exact hlt))=q:=⟨_,rfl⟩
     have HQ:=zH hq
     have C18:Hid (Calls Tryz.prog 18 #[gv k' dm' (.slice na' N' nc') (.slice ka' M' kc')] (wr.alloc (.cells #[.int .i64 k',.int .i64 dm',.slice na' N' nc',.slice ka' M' kc'] 27)) (BoolPost q (wr.alloc (.cells #[.int .i64 k',.int .i64 dm',.slice na' N' nc',.slice ka' M' kc'] 27)))):=by
      rw[←hq]
      exact IH.out _ _ _ _ _ _ ((GAt.kp d).kept (fun b _ hl=>((hrel.out.1.fr).alloc _).block b hl (fun h=>h)) hE)
     unfold gv at C18
     clear hq hE
     cases q
     ·go_wp2_with (go_at_call 18;refine C18.out.mono ?_;rintro e w2 ⟨rfl,f2⟩;have F2:=zH f2;clear f2)
      go_ret
      refine⟨?_,hrel.out.1.call F2.out |>.fr⟩
      show _=Ending.returned (.bool (if (k == 3)=true then _ else _))
      rw[hz3,all_not (by rw[←HM.out];exact hlt) HQ.out]
      rfl
     ·go_wp2_with (go_at_call 18;refine C18.out.mono ?_;rintro e w2 ⟨rfl,f2⟩;have F2:=zH f2;clear f2)
      have HR:Hid (TsAt w #[.int .i64 k,.int .i64 dm,.slice na N nc,.slice (some ⟨b,o,none⟩) M kc] w2∧(ks.take (i+1)).all (isE d)=true):=⟨hrel.out.1.call F2.out,all_take_snoc _ hrel.out.2 HQ.out⟩
      clear hrel
      go_roundw
      case rel=>exact⟨i+1,by go_num,by omega,HR.out⟩
      case measure=>simp[intOf];omega
    ·obtain⟨p0,p1,p2,p3⟩:=bx_cells hrel.out.1.blk
     have hiM:i=M:=by omega
     go_wp2_with fail
     go_ret
     refine⟨?_,hrel.out.1.fr⟩
     have ht:=hrel.out.2
     rw[List.take_of_length_le (by rw[←HM.out];omega)] at ht
     show _=Ending.returned (.bool (if (k == 3)=true then _ else if ks.all (isE d)=true then ns.length == 0 else false))
     rw[hz3,ht,if_neg (by decide),if_pos rfl,←HN.out,←z_eq]
     rfl
  ·obtain rfl:k=3:=by simpa using hz3
   clear hz3
   go_wp2_with fail
   go_ret
   refine⟨?_,H0.out.fr⟩
   show _=Ending.returned (.bool (ks.length == 0))
   rw[←HM.out,←z_eq]
   rfl
theorem whole8:∀(d:Nat) (P:Nat→Prop) (w:World) (k dm:Int) (n m:Value) (g:G),GAt d P w [.int .i64 k,.int .i64 dm,n,m] g→Calls Tryz.prog 8 #[gv k dm n m] w (BoolPost (isW d g) w)
 | 0,_,_,_,_,_,_,_,h=>h.elim
 | d+1,P,w,k,dm,n,m,g,h=>by
  have IH:=zH (whole8 d P)
  obtain⟨k',dm',na,N,nc,ka,M,kc,ns,ks,rfl,e,hN,hM,hNc,hMc,hN3,hM4,_,_,_,_,_,hK⟩:=h.parts
  injection e with e1 e
  injection e1 with _ e1
  injection e with e2 e
  injection e2 with _ e2
  injection e with e3 e
  injection e with e4 _
  subst e1 e2 e3 e4
  have HK:=zH hK
  have HN:=zH hN
  have HM:=zH hM
  obtain⟨w0,hw0⟩:∃w0,w0=w.alloc (.cells #[.int .i64 k,.int .i64 dm,.slice na N nc,.slice ka M kc] 27):=⟨_,rfl⟩
  have H0:Hid (TsAt w #[.int .i64 k,.int .i64 dm,.slice na N nc,.slice ka M kc] w0):=by rw[hw0];exact TsAt.start _ _
  have HW0:=zH hw0
  obtain⟨p0,p1,p2,p3⟩:=bx_cells H0.out.blk
  have HT:=zH h
  clear h hK hN hM hw0
  unfold gv
  go_enter Tryz.func8,Tryz.ntmps8
  obtain⟨z,hz⟩:∃z,isE (d+1) (.mk k dm ns ks)=z:=⟨_,rfl⟩
  have HZ:=zH hz
  have C18:Hid (Calls Tryz.prog 18 #[.agg #[.int .i64 k,.int .i64 dm,.slice na N nc,.slice ka M kc]] w0 (BoolPost z w0)):=by
   rw[←hz,HW0.out]
   exact empty18 _ P _ _ _ _ _ _ ((GAt.kp (d+1)).kept (fun b _ hl=>((Fr.refl (fun _=>False) w).alloc _).block b hl (fun h=>h)) HT.out)
  clear hz HT
  go_upto_region 1 with fail
  rw[←HW0.out]
  cases z
  ·go_wp2_with (go_at_call 18;refine C18.out.mono ?_;rintro e w1 ⟨rfl,f1⟩;have F1:=zH f1;clear f1;have H1:=zH (H0.out.run F1.out);clear p0 p1 p2 p3;obtain⟨p0,p1,p2,p3⟩:=bx_cells H1.out.blk)
   go_loopw [10] (fun iv wr=>∃(i:Nat),iv=.int .i64 (i:Int)∧i≤M∧Hid (TsAt w #[.int .i64 k,.int .i64 dm,.slice na N nc,.slice ka M kc] wr∧(ks.take i).all (isW d)=true)) (fun iv _=>M - (intOf iv).toNat)
   case atStart=>exact⟨0,rfl,Nat.zero_le _,H1.out,rfl⟩
   case round =>
    obtain⟨i,rfl,hi,hrel⟩:=hrel
    by_cases hlt:i < M
    ·obtain⟨b,o,k',dm',na',N',nc',ka',M',kc',⟨cap,hab⟩,hb,_,hE,c0,c1,c2,c3⟩:=kid_at HK.out (i:=i) (by rw[←HM.out];exact hlt)
     injection hab with hab hab2 hab3
     clear hab2 hab3
     subst hab
     have c0':=hrel.out.1.fr.cell c0 (by simp)
     have c1':=hrel.out.1.fr.cell c1 (by simp)
     have c2':=hrel.out.1.fr.cell c2 (by simp)
     have c3':=hrel.out.1.fr.cell c3 (by simp)
     clear c0 c1 c2 c3
     obtain⟨q,hq⟩:∃q,isW d (ks[i]'(by rw[←HM.out];exact hlt))=q:=⟨_,rfl⟩
     have HQ:=zH hq
     have C8:Hid (Calls Tryz.prog 8 #[gv k' dm' (.slice na' N' nc') (.slice ka' M' kc')] (wr.alloc (.cells #[.int .i64 k',.int .i64 dm',.slice na' N' nc',.slice ka' M' kc'] 27)) (BoolPost q (wr.alloc (.cells #[.int .i64 k',.int .i64 dm',.slice na' N' nc',.slice ka' M' kc'] 27)))):=by
      rw[←hq]
      exact IH.out _ _ _ _ _ _ ((GAt.kp d).kept (fun b _ hl=>((hrel.out.1.fr).alloc _).block b hl (fun h=>h)) hE)
     unfold gv at C8
     clear hq hE
     cases q
     ·go_wp2_with (go_at_call 8;refine C8.out.mono ?_;rintro e w2 ⟨rfl,f2⟩;have F2:=zH f2;clear f2)
      go_ret
      refine⟨?_,hrel.out.1.call F2.out |>.fr⟩
      show _=Ending.returned (.bool (if isE (d+1) (.mk k dm ns ks)=true then _ else _))
      rw[HZ.out,all_not (by rw[←HM.out];exact hlt) HQ.out]
      rfl
     ·go_wp2_with (go_at_call 8;refine C8.out.mono ?_;rintro e w2 ⟨rfl,f2⟩;have F2:=zH f2;clear f2)
      have HR:Hid (TsAt w #[.int .i64 k,.int .i64 dm,.slice na N nc,.slice (some ⟨b,o,none⟩) M kc] w2∧(ks.take (i+1)).all (isW d)=true):=⟨hrel.out.1.call F2.out,all_take_snoc _ hrel.out.2 HQ.out⟩
      clear hrel
      go_roundw
      case rel=>exact⟨i+1,by go_num,by omega,HR.out⟩
      case measure=>simp[intOf];omega
    ·have hiM:i=M:=by omega
     go_wp2_with fail
     go_ret
     refine⟨?_,hrel.out.1.fr⟩
     have ht:=hrel.out.2
     rw[List.take_of_length_le (by rw[←HM.out];omega)] at ht
     show _=Ending.returned (.bool (if isE (d+1) (.mk k dm ns ks)=true then _ else ks.all (isW d)))
     rw[HZ.out,ht]
     rfl
  ·go_wp2_with (go_at_call 18;refine C18.out.mono ?_;rintro e w1 ⟨rfl,f1⟩;have F1:=zH f1;clear f1)
   go_ret
   refine⟨?_,H0.out.run F1.out |>.fr⟩
   show _=Ending.returned (.bool (if isE (d+1) (.mk k dm ns ks)=true then _ else _))
   rw[HZ.out]
   rfl
def geF (x y:Nat):Bool:=FloatKind.f64.format.order x y == some .gt || FloatKind.f64.format.order x y == some .eq
def leF (x y:Nat):Bool:=FloatKind.f64.format.order x y == some .lt || FloatKind.f64.format.order x y == some .eq
def smF (x:Nat):Bool:=geF x 13920626448202203136 && leF x 4697254411347427328
theorem sm10(x:Nat)(w:World):Calls Tryz.prog 10 #[.float .f64 x] w fun e w'=>e=.returned (.bool (smF x))∧w=w':=by
 go_enter Tryz.func10,Tryz.ntmps10
 go_wp2_with fail
 ·go_ret
  refine⟨?_,rfl⟩
  rfl
 ·go_ret
  rename_i h
  refine⟨?_,rfl⟩
  show Ending.returned (.bool false)=.returned (.bool (smF x))
  unfold smF geF
  have h2:(FloatKind.f64.format.order x 13920626448202203136 == some Ordering.gt || FloatKind.f64.format.order x 13920626448202203136 == some Ordering.eq)=false:=by simpa [not_or] using h
  rw[h2]
  rfl
def isS:Nat→G→Bool
 | 0,_=>false
 | d+1,.mk _ _ ns ks=>ns.all smF && ks.all (isS d)
theorem nums_cell{P:Nat→Prop}{w:World}{a:Option Addr}{n c:Nat}{ns:List Nat}(h:NumsAt P w (.slice a n c) ns)(i:Nat)(hi:i < ns.length):∃b o,a=some ⟨b,o,none⟩∧w.cell? ⟨b,o+i,none⟩=some (.float .f64 ns[i]):=by
 obtain⟨_,a',cap,e,_,_,h4⟩:=h
 injection e with e1 _ _
 subst e1
 obtain⟨b,o,rfl,_,hc⟩:=h4 (by omega)
 exact⟨b,o,rfl,hc i _ (by simp[hi];rfl)⟩
theorem all9:∀(d:Nat) (P:Nat→Prop) (w:World) (k dm:Int) (n m:Value) (g:G),GAt d P w [.int .i64 k,.int .i64 dm,n,m] g→Calls Tryz.prog 9 #[gv k dm n m,.func (.func 10) #[] #[]] w (BoolPost (isS d g) w)
 | 0,_,_,_,_,_,_,_,h=>h.elim
 | d+1,P,w,k,dm,n,m,g,h=>by
  have IH:=zH (all9 d P)
  obtain⟨k',dm',na,N,nc,ka,M,kc,ns,ks,rfl,e,hN,hM,hNc,hMc,hN3,hM4,_,_,_,_,hNS,hK⟩:=h.parts
  injection e with e1 e
  injection e1 with _ e1
  injection e with e2 e
  injection e2 with _ e2
  injection e with e3 e
  injection e with e4 _
  subst e1 e2 e3 e4
  have HK:=zH hK
  have HN:=zH hN
  have HNS:=zH (nums_cell hNS)
  have HM:=zH hM
  obtain⟨w0,hw0⟩:∃w0,w0=w.alloc (.cells #[.int .i64 k,.int .i64 dm,.slice na N nc,.slice ka M kc] 27):=⟨_,rfl⟩
  have H0:Hid (TsAt w #[.int .i64 k,.int .i64 dm,.slice na N nc,.slice ka M kc] w0):=by rw[hw0];exact TsAt.start _ _
  have HW0:=zH hw0
  obtain⟨p0,p1,p2,p3⟩:=bx_cells H0.out.blk
  clear h hK hN hM hw0
  unfold gv
  go_enter Tryz.func9,Tryz.ntmps9
  go_upto_region 1 with fail
  rw[←HW0.out]
  go_wp2_with fail
  go_loopw [12] (fun iv wr=>∃(i:Nat),iv=.int .i64 (i:Int)∧i≤N∧Hid (wr=w0∧(ns.take i).all smF=true)) (fun iv _=>N - (intOf iv).toNat)
  case atStart=>exact⟨0,rfl,Nat.zero_le _,rfl,rfl⟩
  case round =>
   obtain⟨i,rfl,hi,hrel⟩:=hrel
   by_cases hlt:i < N
   ·obtain⟨b,o,hab,c0⟩:=HNS.out i (by rw[←HN.out];exact hlt)
    subst hab
    obtain⟨x,hx⟩:∃x,x=ns[i]'(by rw[←HN.out];exact hlt):=⟨_,rfl⟩
    have HX:=zH hx
    rw[←hx] at c0
    clear hx
    have hw:=hrel.out.1
    have HA:=zH hrel.out.2
    subst hw
    have c0':=H0.out.fr.cell c0 (by simp)
    obtain⟨q,hq⟩:∃q,smF x=q:=⟨_,rfl⟩
    have C10:Hid (Calls Tryz.prog 10 #[.float .f64 x] wr (fun e w'=>e=.returned (.bool q)∧wr=w')):=by rw[←hq];exact sm10 x wr
    have HQ:=zH hq
    clear hq c0
    cases q
    ·go_wp2_with (go_at_call 10;refine C10.out.mono ?_;rintro e w2 ⟨rfl,rfl⟩)
     go_ret
     refine⟨?_,H0.out.fr⟩
     show _=Ending.returned (.bool (ns.all smF && _))
     rw[all_not (f:=smF) (i:=i) (by rw[←HN.out];exact hlt) (by rw[←HX.out];exact HQ.out)]
     rfl
    ·go_wp2_with (go_at_call 10;refine C10.out.mono ?_;rintro e w2 ⟨rfl,rfl⟩)
     have HR:Hid (wr=wr∧(ns.take (i+1)).all smF=true):=⟨rfl,all_take_snoc (by rw[←HN.out];exact hlt) HA.out (by rw[←HX.out];exact HQ.out)⟩
     clear hrel HA
     go_roundw
     case rel=>exact⟨i+1,by go_num,by omega,zH ⟨trivial,HR.out.2⟩⟩
     case measure=>simp[intOf];omega
   ·have HA:Hid (ns.all smF=true):=by
     have ht:=hrel.out.2
     have hiN:i=N:=by omega
     rw[List.take_of_length_le (by rw[←HN.out];omega)] at ht
     exact ht
    have hw:=hrel.out.1
    subst hw
    clear hrel
    go_wp2_with fail
    go_loopw [24] (fun iv wr1=>∃(i:Nat),iv=.int .i64 (i:Int)∧i≤M∧Hid (TsAt w #[.int .i64 k,.int .i64 dm,.slice na N nc,.slice ka M kc] wr1∧(ks.take i).all (isS d)=true)) (fun iv _=>M - (intOf iv).toNat)
    case atStart=>exact⟨0,rfl,Nat.zero_le _,H0.out,rfl⟩
    case round =>
     obtain⟨i,rfl,hi,hrel⟩:=hrel
     by_cases hlt:i < M
     ·obtain⟨b,o,k',dm',na',N',nc',ka',M',kc',⟨cap,hab⟩,hb,_,hE,c0,c1,c2,c3⟩:=kid_at HK.out (i:=i) (by rw[←HM.out];exact hlt)
      injection hab with hab hab2 hab3
      clear hab2 hab3
      subst hab
      have c0':=hrel.out.1.fr.cell c0 (by simp)
      have c1':=hrel.out.1.fr.cell c1 (by simp)
      have c2':=hrel.out.1.fr.cell c2 (by simp)
      have c3':=hrel.out.1.fr.cell c3 (by simp)
      clear c0 c1 c2 c3
      obtain⟨q,hq⟩:∃q,isS d (ks[i]'(by rw[←HM.out];exact hlt))=q:=⟨_,rfl⟩
      have HQ:=zH hq
      have C9:Hid (Calls Tryz.prog 9 #[gv k' dm' (.slice na' N' nc') (.slice ka' M' kc'),.func (.func 10) #[] #[]] (wr.alloc (.cells #[.int .i64 k',.int .i64 dm',.slice na' N' nc',.slice ka' M' kc'] 27)) (BoolPost q (wr.alloc (.cells #[.int .i64 k',.int .i64 dm',.slice na' N' nc',.slice ka' M' kc'] 27)))):=by
       rw[←hq]
       exact IH.out _ _ _ _ _ _ ((GAt.kp d).kept (fun b _ hl=>((hrel.out.1.fr).alloc _).block b hl (fun h=>h)) hE)
      unfold gv at C9
      clear hq hE
      cases q
      ·go_wp2_with (go_at_call 9;refine C9.out.mono ?_;rintro e w2 ⟨rfl,f2⟩;have F2:=zH f2;clear f2)
       go_ret
       refine⟨?_,hrel.out.1.call F2.out |>.fr⟩
       show _=Ending.returned (.bool (_ && ks.all (isS d)))
       rw[all_not (by rw[←HM.out];exact hlt) HQ.out,Bool.and_false]
       rfl
      ·go_wp2_with (go_at_call 9;refine C9.out.mono ?_;rintro e w2 ⟨rfl,f2⟩;have F2:=zH f2;clear f2)
       have HR:Hid (TsAt w #[.int .i64 k,.int .i64 dm,.slice na N nc,.slice (some ⟨b,o,none⟩) M kc] w2∧(ks.take (i+1)).all (isS d)=true):=⟨hrel.out.1.call F2.out,all_take_snoc _ hrel.out.2 HQ.out⟩
       clear hrel
       go_roundw
       case rel=>exact⟨i+1,by go_num,by omega,HR.out⟩
       case measure=>simp[intOf];omega
     ·have hiM:i=M:=by omega
      go_wp2_with fail
      go_ret
      refine⟨?_,hrel.out.1.fr⟩
      have ht:=hrel.out.2
      rw[List.take_of_length_le (by rw[←HM.out];omega)] at ht
      show _=Ending.returned (.bool (ns.all smF && ks.all (isS d)))
      rw[HA.out,ht]
      rfl
open Go.RowKit
theorem call97(n:Nat)(w:World):(callFunc 97 #[.float .f64 n]).run Tryz.prog w=.ok (.value (.int .u64 n)) w:=by kernel_rfl
theorem same31(P1 P2:Nat→Prop)(l:List Nat)(v1 v2:Value)(w:World)(h1:NumsAt P1 w v1 l)(h2:NumsAt P2 w v2 l)(hl:l.length≤30000):
  Calls Tryz.prog 31 #[v1,v2] w fun e w'=>e=.returned (.bool true)∧∃n,w'=w.drewN n:=by
 obtain⟨a1,c1,rfl,k1⟩:=h1.slice
 obtain⟨a2,c2,rfl,k2⟩:=h2.slice
 obtain⟨n,hn⟩:∃n,n=l.length:=⟨_,rfl⟩
 have HN:=zH hn
 have HK1:=zH k1
 have HK2:=zH k2
 have c97:=call97
 rw[←hn] at hl ⊢
 clear k1 k2 hn h1 h2
 go_enter Tryz.func31,Tryz.ntmps31
 go_wp2_with fail
 go_loopw [5,6,14] (fun _ _ iv wr=>∃k:Nat,k≤n∧iv=.int .i64 k∧Hid (∃m,wr=w.drewN m)) (fun _ _ iv _=>n - (intOf iv).toNat)
 case atStart=>exact⟨0,Nat.zero_le _,rfl,0,rfl⟩
 case round =>
  obtain⟨k,hk,rfl,hw⟩:=hrel
  obtain⟨m,hw⟩:=hw.out
  subst hw
  by_cases hlt:k < n
  ·obtain⟨b1,o1,rfl,a1⟩:=HK1.out k (by rw[←HN.out];exact hlt)
   obtain⟨b2,o2,rfl,a2⟩:=HK2.out k (by rw[←HN.out];exact hlt)
   obtain⟨x,hx⟩:∃x,x=l[k]'(by rw[←HN.out];exact hlt):=⟨_,rfl⟩
   rw[←hx] at a1 a2
   have hlt2:(k:Int) < (n:Int):=by omega
   clear hx
   go_upto_region 6 with fail
   go_quiet (fail)
   go_wp2_with fail
   go_roundw
   case rel=>exact⟨k+1,by omega,by go_num,_,rfl⟩
   case measure=>simp[intOf];omega
  ·go_wp2_with fail
   go_ret
   exact⟨rfl,m,rfl⟩
def TruePost (w:World) (e:Ending) (w':World):Prop:=e=.returned (.bool true)∧ZF w w'
theorem geoms32(d:Nat)(IH:∀(P1 P2:Nat→Prop) (w:World) (k k2 dm dm2:Int) (n m n2 m2:Value) (g:G),GAt d P1 w [.int .i64 k,.int .i64 dm,n,m] g→GAt d P2 w [.int .i64 k2,.int .i64 dm2,n2,m2] g→Calls Tryz.prog 13 #[gv k dm n m,gv k2 dm2 n2 m2] w (TruePost w))
  (P1 P2:Nat→Prop) (v1 v2:Value) (ks:List G) (w:World) (h1:RowsAt (GAt d) P1 4 w v1 ks) (h2:RowsAt (GAt d) P2 4 w v2 ks) (hl:ks.length≤4096):Calls Tryz.prog 32 #[v1,v2] w (TruePost w):=by
 obtain⟨a1,c1,rfl,hc1,_⟩:=h1.at
 obtain⟨a2,c2,rfl,hc2,_⟩:=h2.at
 obtain⟨n,hn⟩:∃n,n=ks.length:=⟨_,rfl⟩
 have HN:=zH hn
 have H1:=zH h1
 have H2:=zH h2
 have HI:=zH IH
 rw[←hn] at hl hc1 hc2 ⊢
 rw[←hn] at H1 H2
 clear hn h1 h2 IH
 go_enter Tryz.func32,Tryz.ntmps32
 go_wp2_with fail
 go_loopw [14] (fun iv wr=>∃k:Nat,k≤n∧iv=.int .i64 k∧Hid (ZF w wr)) (fun iv _=>n - (intOf iv).toNat)
 case atStart=>exact⟨0,Nat.zero_le _,rfl,Fr.refl _ _⟩
 case round =>
  obtain⟨i,hi,rfl,hrel⟩:=hrel
  by_cases hlt:i < n
  ·obtain⟨b1,o1,k1,dm1,na1,n1,nc1,ka1,m1,kc1,⟨cap1,hab1⟩,hb1,_,hE1,x0,x1,x2,x3⟩:=kid_at H1.out (i:=i) (by rw[←HN.out];exact hlt)
   obtain⟨b2,o2,k2,dm2,na2,n2,nc2,ka2,m2,kc2,⟨cap2,hab2⟩,hb2,_,hE2,y0,y1,y2,y3⟩:=kid_at H2.out (i:=i) (by rw[←HN.out];exact hlt)
   injection hab1 with hab1 e1 e2
   injection hab2 with hab2 e3 e4
   clear e1 e2 e3 e4
   subst hab1 hab2
   have hf:=hrel.out
   have u0:=hf.cell x0 (by simp)
   have u1:=hf.cell x1 (by simp)
   have u2:=hf.cell x2 (by simp)
   have u3:=hf.cell x3 (by simp)
   have fa:ZF w (wr.alloc (.cells #[.int .i64 k1,.int .i64 dm1,.slice na1 n1 nc1,.slice ka1 m1 kc1] 27)):=hf.alloc _
   have v0:=fa.cell y0 (by simp)
   have v1:=fa.cell y1 (by simp)
   have v2:=fa.cell y2 (by simp)
   have v3:=fa.cell y3 (by simp)
   have C13:Hid (Calls Tryz.prog 13 #[gv k1 dm1 (.slice na1 n1 nc1) (.slice ka1 m1 kc1),gv k2 dm2 (.slice na2 n2 nc2) (.slice ka2 m2 kc2)] ((wr.alloc (.cells #[.int .i64 k1,.int .i64 dm1,.slice na1 n1 nc1,.slice ka1 m1 kc1] 27)).drew) (TruePost ((wr.alloc (.cells #[.int .i64 k1,.int .i64 dm1,.slice na1 n1 nc1,.slice ka1 m1 kc1] 27)).drew))) :=
    HI.out _ _ _ _ _ _ _ _ _ _ _ _ ((GAt.kp d).kept (fun b _ hl=>fa.drew.block b hl (fun h=>h)) hE1) ((GAt.kp d).kept (fun b _ hl=>fa.drew.block b hl (fun h=>h)) hE2)
   unfold gv at C13
   have FA:=zH fa
   clear x0 x1 x2 x3 y0 y1 y2 y3 hE1 hE2 hf fa
   go_upto_region 6 with fail
   go_region_with (go_at_call 13;refine C13.out.mono ?_;rintro e w2 ⟨rfl,f2⟩;have F2:=zH f2;clear f2)
   all_goals
    have HR:Hid (ZF w w2):=FA.out.drew.trans F2.out
    clear F2 FA hrel
    go_wp2_with fail
    go_roundw
    case rel=>exact⟨i+1,by omega,by go_num,HR.out⟩
    case measure=>simp[intOf];omega
  ·go_wp2_with fail
   go_ret
   exact⟨rfl,hrel.out⟩
theorem same13:∀(d:Nat) (P1 P2:Nat→Prop) (w:World) (k k2 dm dm2:Int) (n m n2 m2:Value) (g:G),GAt d P1 w [.int .i64 k,.int .i64 dm,n,m] g→GAt d P2 w [.int .i64 k2,.int .i64 dm2,n2,m2] g→Calls Tryz.prog 13 #[gv k dm n m,gv k2 dm2 n2 m2] w (TruePost w)
 | 0,_,_,_,_,_,_,_,_,_,_,_,_,h,_=>h.elim
 | d+1,P1,P2,w,k,k2,dm,dm2,n,m,n2,m2,g,h,h'=>by
  obtain⟨k',dm',na,N,nc,ka,M,kc,ns,ks,rfl,e,hN,hM,hNc,hMc,hN3,hM4,_,_,_,_,hNS,hK⟩:=h.parts
  obtain⟨k'',dm'',na2,N2,nc2,ka2,M2,kc2,ns',ks',eg,e',hN2,hM2,_,_,_,_,_,_,_,_,hNS2,hK2⟩:=h'.parts
  injection eg with g1 g2 g3 g4
  subst g1 g2 g3 g4
  simp only[List.cons.injEq,Value.int.injEq,true_and,and_true] at e e'
  obtain⟨e1,e2,e3,e4⟩:=e
  obtain⟨e5,e6,e7,e8⟩:=e'
  subst e1 e2 e3 e4 e5 e6 e7 e8
  obtain⟨w0,hw0⟩:∃w0,w0=(w.alloc (.cells #[.int .i64 k2,.int .i64 dm2,.slice na N nc,.slice ka M kc] 27)).alloc (.cells #[.int .i64 k2,.int .i64 dm2,.slice na2 N2 nc2,.slice ka2 M2 kc2] 27):=⟨_,rfl⟩
  have F0:Hid (ZF w w0):=by show Fr _ _ _;rw[hw0];exact ((Fr.refl _ w).alloc _).alloc _
  have hsz:(w.alloc (.cells #[.int .i64 k2,.int .i64 dm2,.slice na N nc,.slice ka M kc] 27)).heap.size=w.heap.size+1:=by show (w.heap.push _).size=_;rw[Array.size_push]
  have B1:Hid (w0.heap[w.heap.size]?=some (.cells #[.int .i64 k2,.int .i64 dm2,.slice na N nc,.slice ka M kc] 27 (0,0))):=by show _=_;rw[hw0];exact (Below.heap_alloc _ _ _ (by omega)).trans (zN w _)
  have B2:Hid (w0.heap[w.heap.size+1]?=some (.cells #[.int .i64 k2,.int .i64 dm2,.slice na2 N2 nc2,.slice ka2 M2 kc2] 27 (0,0))):=by show _=_;rw[hw0,←hsz];exact zN _ _
  have C31:Hid (Calls Tryz.prog 31 #[.slice na N nc,.slice na2 N2 nc2] w0 (fun e w'=>e=.returned (.bool true)∧∃n,w'=w0.drewN n)):=same31 P1 P2 ns _ _ _ (CellsAt.kept hNS (fun b _ hl=>F0.out.block b hl (fun h=>h))) (CellsAt.kept hNS2 (fun b _ hl=>F0.out.block b hl (fun h=>h))) (by omega)
  have C32:Hid (∀j,Calls Tryz.prog 32 #[.slice ka M kc,.slice ka2 M2 kc2] (w0.drewN j) (TruePost (w0.drewN j))):=fun j=>geoms32 d (same13 d) P1 P2 _ _ ks _ (hK.under (GAt.kp d) (F0.out.drewN j)) (hK2.under (GAt.kp d) (F0.out.drewN j)) (by omega)
  have HW0:=zH hw0
  obtain⟨p0,p1,p2,p3⟩:=bx_cells B1.out
  obtain⟨q0,q1,q2,q3⟩:=bx_cells B2.out
  clear h h' hNS hK hNS2 hK2 hw0 hN hM hN2 hM2
  unfold gv
  go_enter Tryz.func13,Tryz.ntmps13
  go_upto_region 1 with fail
  rw[←HW0.out]
  go_wp2_with (first|(go_at_call 31;refine C31.out.mono ?_;rintro e w2 ⟨rfl,j,rfl⟩)|(go_at_call 32;refine (C32.out _).mono ?_;rintro e w2 ⟨rfl,f2⟩;have F2:=zH f2;clear f2))
  go_ret
  exact⟨rfl,(F0.out.drewN _).trans F2.out⟩
open Go.RowKit
def fo:Nat→Nat→G→G
 | 0,_,g=>g
 | n+1,c,.mk k d ns ks=>.mk k c (nums c (places d.toNat ns)) (ks.map (fo n c))
def FQ:Nat→Nat→G→Prop
 | 0,_,_=>True
 | n+1,c,.mk _ d ns ks=>(ns=[]∨wd c≤wd d.toNat)∧∀x∈ks,FQ n c x
theorem four_one(a b:Int)(na:Option Addr)(n nc:Nat)(ka:Option Addr)(m kc:Nat):∀u∈[Value.int .i64 a,.int .i64 b,.slice na n nc,.slice ka m kc],Value.oneCell' u=true:=by
 intro u hu
 simp only[List.mem_cons,List.not_mem_nil,or_false] at hu
 rcases hu with rfl|rfl|rfl|rfl<;>rfl
theorem places_len(d:Nat)(ns:List Nat):(places d ns).length=ns.length / wd d:=by unfold places;simp
theorem force_len{c d:Nat}{ns:List Nat}(h:ns=[]∨wd c≤wd d):(nums c (places d ns)).length≤ns.length:=by
 rw[nums_len,places_len]
 rcases h with h|h
 ·subst h;simp
 ·exact Nat.le_trans (Nat.mul_le_mul_left _ h) (Nat.div_mul_le_self _ _)
theorem places102(d:Nat)(hd:d≤3)(P:Nat→Prop)(v:Value)(xs:List Nat)(w:World)(h:NumsAt P w v xs)(hl:xs.length≤100000):Calls Tryz.prog 102 #[v,.int .i64 d] w (PlcPost d xs w):=by
 have hd':d=0∨d=1∨d=2∨d=3:=by omega
 rcases hd' with rfl|rfl|rfl|rfl
 ·exact places102_0 P v xs w h hl
 ·exact places102_1 P v xs w h hl
 ·exact places102_2 P v xs w h hl
 ·exact places102_3 P v xs w h hl
theorem nums101(d:Nat)(hd:d≤3)(P:Nat→Prop)(v:Value)(ps:List Plc)(w:World)(h:CellsAt P w v ps.length 4 (ps.flatMap plCells))(hl:ps.length≤100000):Calls Tryz.prog 101 #[v,.int .i64 d] w (NumPostN d ps w):=by
 have hd':d=0∨d=1∨d=2∨d=3:=by omega
 rcases hd' with rfl|rfl|rfl|rfl
 ·exact nums101_0 P v ps w h hl
 ·exact nums101_1 P v ps w h hl
 ·exact nums101_2 P v ps w h hl
 ·exact nums101_3 P v ps w h hl
structure FoAt (d:Nat) (w:World) (bx:Array Value) (k c:Int) (nv:Value) (ns:List Nat) (M i:Nat) (v:Value) (xs:List G) (wx:World):Prop where
 fr:ZF w wx
 box:wx.heap[w.heap.size]?=some (.cells bx 27 (0,0))
 res:wx.heap[w.heap.size+1]?=some (.cells #[.int .i64 0,.int .i64 0,.slice none 0 0,.slice none 0 0] 27 (0,0))
 o:wx.heap[w.heap.size+2]?=some (.cells #[.int .i64 k,.int .i64 c,nv,v] 27 (0,0))
 nums:NumsAt (fun b=>w.heap.size+3≤b∧b < M) wx nv ns
 own:OwnRows (GAt d) M 27 4 wx v xs
 len:xs.length=i
 ms:w.heap.size+3≤M∧M≤wx.heap.size
def ForcePost (d c:Nat) (k:Int) (g:G) (w:World) (e:Ending) (w':World):Prop :=
 ∃(na:Option Addr) (n nc:Nat) (ka:Option Addr) (m kc:Nat),e=.returned (.agg #[.int .i64 k,.int .i64 c,.slice na n nc,.slice ka m kc])∧Hid (ZF w w'∧GAt d (fun b=>w.heap.size≤b) w' [.int .i64 k,.int .i64 c,.slice na n nc,.slice ka m kc] (fo d c g))
theorem FoAt.next{d:Nat}{w:World}{bx:Array Value}{k c:Int}{nv:Value}{ns:List Nat}{M i:Nat}{v:Value}{xs:List G}{wr:World}(h:FoAt d w bx k c nv ns M i v xs wr){w5:World}(f:ZF wr w5){c0 c1 c2 c3:Value}{x:G}(hx:GAt d (fun b=>wr.heap.size≤b) w5 [c0,c1,c2,c3] x):
  ∃cs,w5.ownsRow M 27 4 v i cs∧∀(o:Obj) (w7:World) (v':Value),w7.ownsRow M 27 4 v' (i+1) (cs++[c0,c1,c2,c3])→(w5.alloc o).grownBy w7 v.ownBlock→(v'.ownBlock=v.ownBlock∨v'.ownBlock=some (w5.alloc o).heap.size) →
   w7.heap[w.heap.size+2]?=some (.cells #[.int .i64 k,.int .i64 c,nv,v] 27 (0,0))∧(∀b,wr.heap.size≤b→b < w5.heap.size→w7.heap[b]?=w5.heap[b]?)∧FoAt d w bx k c nv ns M (i+1) v' (xs++[x]) (w7.setCell ⟨w.heap.size+2,3,none⟩ v'):=by
 have hE:=GAt.kp d
 have hm:=h.ms
 have hsz:=f.size
 have old:∀b,b < wr.heap.size→w5.heap[b]?=wr.heap[b]?:=fun b h1=>f.block b h1 (fun h=>h)
 obtain⟨css,o1,o2,o3⟩:=h.own.kept hE (w':=w5) (fun b _ h2=>old b h2)
 rw[h.len] at o1
 refine⟨css.flatten,o1,fun o w7 v' p1 p2 p3=>?_⟩
 have ha:(w5.alloc o).heap.size=w5.heap.size+1:=by show (w5.heap.push _).size=_;rw[Array.size_push]
 have hkv:∀b,v.ownBlock=some b→M≤b∧b < wr.heap.size:=fun b hb=>by
  have a1:=o1.lt b hb
  obtain⟨cs2,a2⟩:=h.own.own
  exact⟨a1.1,(a2.lt b hb).2⟩
 have f7:Fr (fun b=>M≤b) w5 w7:=((Fr.refl _ w5).alloc o).grown p2 (fun b hb=>.inr (hkv b hb).1)
 have old7:∀b,b < M→w7.heap[b]?=wr.heap[b]?:=fun b hb=>(f7.block b (by omega) (by omega)).trans (old b (by omega))
 have k7:=(old7 _ (by omega)).trans h.o
 have hx':GAt d (Off M v) (w5.alloc o) [c0,c1,c2,c3] x:=by
  refine (hE.kept (w:=w5) (fun b _ hb=>Below.heap_alloc w5 o b hb) (hE.mono (P:=fun b=>wr.heap.size≤b) (fun b hb _=>⟨by omega,fun e=>?_⟩) hx))
  have:=(hkv b e.symm).2
  omega
 have o3':∀(i:Nat) (c:List Value) (x:G),css[i]?=some c→xs[i]?=some x→c.length=4∧GAt d (Off M v) (w5.alloc o) c x:=fun i c x hc hx=>⟨(o3 i c x hc hx).1,hE.kept (w:=w5) (fun b _ hb=>Below.heap_alloc w5 o b hb) (o3 i c x hc hx).2⟩
 have o8:OwnRows (GAt d) M 27 4 w7 v' (xs++[x]):=OwnRows.snoc hE o2 o3' rfl hx' (by rw[h.len];exact p1) p2 p3
 have k8:∀b,b≠w.heap.size+2→(w7.setCell ⟨w.heap.size+2,3,none⟩ v').heap[b]?=w7.heap[b]?:=fun b hb=>Below.heap_setCell _ _ _ _ hb
 have s8:(w7.setCell ⟨w.heap.size+2,3,none⟩ v').heap.size=w7.heap.size:=by simp[World.setCell]
 have s7:=f7.size
 refine⟨k7,fun b h1 h2=>(p2.block b (by omega) (fun e=>by have:=(hkv b e.symm).2;omega)).trans (Below.heap_alloc w5 o b h2),((h.fr.trans f).transNew f7 (fun b hb=>.inl (by omega))).setNew (by show w.heap.size≤w.heap.size+2;omega) v',?_,?_,Lib.heap_setCell_same (i:=3) k7 _,?_,OwnRows.kept hE (fun b hb _=>k8 b (by omega)) o8,by rw[List.length_append,h.len];rfl,⟨hm.1,by omega⟩⟩
 ·rw[k8 _ (by omega),old7 _ (by omega)];exact h.box
 ·rw[k8 _ (by omega),old7 _ (by omega)];exact h.res
 ·exact CellsAt.kept (w:=wr) h.nums (fun b hb _=>by rw[k8 b (by omega),old7 b hb.2])
def foW (w:World) (k dm c:Int) (nv kv:Value):World:=((w.alloc (.cells #[.int .i64 k,.int .i64 dm,nv,kv] 27)).alloc (.cells #[.int .i64 0,.int .i64 0,.slice none 0 0,.slice none 0 0] 27)).alloc (.cells #[.int .i64 k,.int .i64 c,.slice none 0 0,.slice none 0 0] 27)
theorem foW_cells(w:World)(k dm c:Int)(nv kv:Value):(foW w k dm c nv kv).heap.size=w.heap.size+3∧ZF w (foW w k dm c nv kv)∧(foW w k dm c nv kv).heap[w.heap.size]?=some (.cells #[.int .i64 k,.int .i64 dm,nv,kv] 27 (0,0))∧(foW w k dm c nv kv).heap[w.heap.size+1]?=some (.cells #[.int .i64 0,.int .i64 0,.slice none 0 0,.slice none 0 0] 27 (0,0))∧(foW w k dm c nv kv).heap[w.heap.size+2]?=some (.cells #[.int .i64 k,.int .i64 c,.slice none 0 0,.slice none 0 0] 27 (0,0)):=by
 obtain⟨w1,h1⟩:∃w1,w1=w.alloc (.cells #[.int .i64 k,.int .i64 dm,nv,kv] 27):=⟨_,rfl⟩
 obtain⟨w2,h2⟩:∃w2,w2=w1.alloc (.cells #[.int .i64 0,.int .i64 0,.slice none 0 0,.slice none 0 0] 27):=⟨_,rfl⟩
 have s1:w1.heap.size=w.heap.size+1:=by rw[h1];show (w.heap.push _).size=_;rw[Array.size_push]
 have s2:w2.heap.size=w.heap.size+2:=by rw[h2];show (w1.heap.push _).size=_;rw[Array.size_push,s1]
 have e:foW w k dm c nv kv=w2.alloc (.cells #[.int .i64 k,.int .i64 c,.slice none 0 0,.slice none 0 0] 27):=by rw[h2,h1];rfl
 rw[e]
 have b1:w1.heap[w.heap.size]?=some (.cells #[.int .i64 k,.int .i64 dm,nv,kv] 27 (0,0)):=by rw[h1];exact zN w _
 have b2:w2.heap[w.heap.size+1]?=some (.cells #[.int .i64 0,.int .i64 0,.slice none 0 0,.slice none 0 0] 27 (0,0)):=by rw[h2,←s1];exact zN w1 _
 refine⟨by show (w2.heap.push _).size=_;rw[Array.size_push,s2],?_,?_,?_,by rw[←s2];exact zN w2 _⟩
 ·rw[h2,h1];exact (((Fr.refl _ w).alloc _).alloc _).alloc _
 ·refine (Below.heap_alloc w2 _ _ (by omega)).trans ?_
  rw[h2]
  exact (Below.heap_alloc w1 _ _ (by omega)).trans b1
 ·exact (Below.heap_alloc w2 _ _ (by omega)).trans b2
theorem FoAt.start{d:Nat}{w:World}{k dm c:Int}{nv0 kv0 nv:Value}{ns:List Nat}{w1 w2:World}{n:Nat}(f1:ZF (foW w k dm c nv0 kv0) w1)(f2:ZF w1 w2)(hn:n=ns.length)(o2:w2.ownsRow w1.heap.size 40 1 nv n (ns.map flv)):
  FoAt d w #[.int .i64 k,.int .i64 dm,nv0,kv0] k c nv ns w2.heap.size 0 (.slice none 0 0) [] (w2.setCell ⟨w.heap.size+2,2,none⟩ nv):=by
 obtain⟨s0,f0,b0,b1,b2⟩:=foW_cells w k dm c nv0 kv0
 have s1:=f1.size
 have s2:=f2.size
 have f:=f1.trans f2
 have k2:=(f.block _ (by omega) (fun h=>h)).trans b2
 have k8:∀b,b≠w.heap.size+2→(w2.setCell ⟨w.heap.size+2,2,none⟩ nv).heap[b]?=w2.heap[b]?:=fun b hb=>Below.heap_setCell _ _ _ _ hb
 have s8:(w2.setCell ⟨w.heap.size+2,2,none⟩ nv).heap.size=w2.heap.size:=by simp[World.setCell]
 refine⟨(f0.trans f).setNew (by show w.heap.size≤w.heap.size+2;omega) _,?_,?_,Lib.heap_setCell_same (i:=2) k2 _,?_,OwnRows.nil,rfl,⟨by omega,by omega⟩⟩
 ·rw[k8 _ (by omega)];exact (f.block _ (by omega) (fun h=>h)).trans b0
 ·rw[k8 _ (by omega)];exact (f.block _ (by omega) (fun h=>h)).trans b1
 ·subst hn
  have h:=(CellsAt.of_own o2).mono (Q:=fun b=>w.heap.size+3≤b∧b < w2.heap.size) (by decide) (fun b hb hl=>⟨by have:=(o2.lt b hb.symm).1;omega,hl⟩)
  have h2:CellsAt (fun b=>w.heap.size+3≤b∧b < w2.heap.size) w2 nv ns.length 1 (ns.map flv):=h
  exact CellsAt.kept (w:=w2) h2 (fun b hb _=>k8 b (by omega))
theorem fo_post{d:Nat}{w:World}{bx:Array Value}{k:Int}{c:Nat}{dm:Int}{xa:Option Addr}{xn xc:Nat}{ns:List Nat}{ks:List G}{M i:Nat}{va:Option Addr}{vc:Nat}{wr w':World}(h:FoAt d w bx k c (.slice xa xn xc) (nums c (places dm.toNat ns)) M i (.slice va i vc) (ks.map (fo d c)) wr)(f:Fr (Eq (w.heap.size+1)) wr w')
  (hk0:0≤k) (hk:k≤15) (hc:c≤3) (hn:(nums c (places dm.toNat ns)).length≤30000) (hx:(ks.map (fo d c)).length≤4096):ForcePost (d+1) c k (.mk k dm ns ks) w (.returned (.agg #[.int .i64 k,.int .i64 c,.slice xa xn xc,.slice va i vc])) w':=by
 have hE:=GAt.kp d
 have hm:=h.ms
 have o1:=((h.own.kept hE (w':=w') (fun b h1 h2=>f.block b h2 (by omega))).done hE (by decide)).mono hE (by decide) (Q:=fun b=>w.heap.size≤b) (fun b hb _=>by omega)
 have n1:=(CellsAt.kept (w':=w') h.nums (fun b hb hl=>f.block b hl (by omega))).mono (Q:=fun b=>w.heap.size≤b) (by decide) (fun b hb _=>by omega)
 exact⟨xa,xn,xc,va,i,vc,rfl,h.fr.transNew f (fun b hb=>.inl (by omega)),_,_,rfl,n1,o1,hn,hx,hk0,hk,Int.natCast_nonneg _,by show (c:Int)≤3;omega⟩
theorem force39:∀(d:Nat) (P:Nat→Prop) (w:World) (k dm:Int) (n m:Value) (c:Nat) (g:G),c≤3→GAt d P w [.int .i64 k,.int .i64 dm,n,m] g→FQ d c g→Calls Tryz.prog 39 #[gv k dm n m,.int .i64 c] w (ForcePost d c k g w)
 | 0,_,_,_,_,_,_,_,_,_,h,_=>h.elim
 | d+1,P,w,k,dm,n,m,c,g,hc,h,hq=>by
  have IH:=zH (force39 d P)
  obtain⟨k',dm',na,N,nc,ka,M,kc,ns,ks,rfl,e,hN,hM,hNc,hMc,hN3,hM4,hk0,hk15,hd0,hd3,hNS,hK⟩:=h.parts
  simp only[List.cons.injEq,Value.int.injEq,true_and,and_true] at e
  obtain⟨e1,e2,e3,e4⟩:=e
  subst e1 e2 e3 e4
  obtain⟨dn,hdn⟩:∃dn:Nat,dm=(dn:Int):=⟨dm.toNat,by omega⟩
  subst hdn
  obtain⟨q1,q2⟩:=hq
  rw[Int.toNat_natCast] at q1
  have hlen:(nums c (places dn ns)).length≤30000:=Nat.le_trans (force_len q1) (by omega)
  have HK:=zH hK
  have HM:=zH hM
  have HQ2:=zH q2
  obtain⟨i0,hi0,hz0,hz1,hz2⟩:=info_parts info27
  obtain⟨s0,f0,b0,b1,b2⟩:=foW_cells w k dn c (.slice na N nc) (.slice ka M kc)
  obtain⟨w0,hw0⟩:∃w0,w0=foW w k dn c (.slice na N nc) (.slice ka M kc):=⟨_,rfl⟩
  rw[←hw0] at s0 f0 b0 b1 b2
  have C102:Hid (Calls Tryz.prog 102 #[.slice na N nc,.int .i64 dn] w0 (PlcPost dn ns w0)):=places102 dn (by omega) P _ ns _ (CellsAt.kept hNS (fun b _ hl=>f0.block b hl (fun h=>h))) (by omega)
  have C101:Hid (∀v w1,w1.ownsRow w0.heap.size 249 4 v (places dn ns).length ((places dn ns).flatMap plCells)→Calls Tryz.prog 101 #[v,.int .i64 c] w1 (NumPostN c (places dn ns) w1)):=fun v w1 ho=>nums101 c hc _ v _ w1 (CellsAt.of_own ho) (by rw[places_len];have:=Nat.div_le_self ns.length (wd dn);omega)
  have HW0:=zH hw0
  obtain⟨p0,p1,p2,p3⟩:=bx_cells b0
  have HLEN:=zH hlen
  have HST:Hid (∀(w1 w2:World) (nv:Value) (n:Nat),ZF w0 w1→ZF w1 w2→n=(nums c (places dn ns)).length→w2.ownsRow w1.heap.size 40 1 nv n ((nums c (places dn ns)).map flv)→FoAt d w #[.int .i64 k,.int .i64 dn,.slice na N nc,.slice ka M kc] k c nv (nums c (places dn ns)) w2.heap.size 0 (.slice none 0 0) [] (w2.setCell ⟨w.heap.size+1+1,2,none⟩ nv)):=fun w1 w2 nv n f1 f2 hn o2=>FoAt.start (by rw[←hw0];exact f1) f2 hn o2
  have FR0:=zH f0
  have B0:=zH b0
  have B2:=zH b2
  clear h hNS hK hw0 hN hM q1 q2 hlen f0 b0 b1 b2
  unfold gv
  go_enter Tryz.func39,Tryz.ntmps39
  go_upto_region 2 with fail
  unfold foW at HW0
  rw[←HW0.out]
  go_upto_region 3 with (first|(go_at_call 102;refine C102.out.mono ?_;rintro e w1 ⟨pa,pn,pc,rfl,hp⟩;obtain⟨rfl,f1,o1⟩:=hp.out;have F1:=zH f1;have O1:=zH o1;clear hp f1 o1)|(go_at_call 101;refine (C101.out _ _ O1.out).mono ?_;rintro e w2 ⟨xa,xn,xc,rfl,hp⟩;have HS:=zH (HST.out _ _ _ _ F1.out hp.out.2.1 hp.out.1 hp.out.2.2);obtain⟨q0,q1,q2,q3,qf⟩:=g_cells (b:=w.heap.size+1+1) ((hp.out.2.1.block _ (by have:=F1.out.size;omega) (fun h=>h)).trans ((F1.out.block _ (by omega) (fun h=>h)).trans B2.out));clear hp))
  obtain⟨w3,hw3⟩:∃w3,w3=w2.setCell ⟨w.heap.size+1+1,2,none⟩ (.slice xa xn xc):=⟨_,rfl⟩
  rw[←hw3] at HS ⊢
  obtain⟨M0,hM0⟩:∃M0,M0=w2.heap.size:=⟨_,rfl⟩
  rw[←hM0] at HS
  clear hw3 hM0 q0 q1 q2 q3 qf p0 p1 p2 p3 F1 O1 C101 C102 HST B2 B0
  obtain⟨p0,p1,p2,p3⟩:=bx_cells HS.out.box
  go_wp2_with fail
  go_loopw [23] (fun iv wr=>∃(i:Nat) (va:Option Addr) (vc:Nat),iv=.int .i64 (i:Int)∧i≤M∧Hid (FoAt d w #[.int .i64 k,.int .i64 dn,.slice na N nc,.slice ka M kc] k c (.slice xa xn xc) (nums c (places dn ns)) M0 i (.slice va i vc) ((ks.take i).map (fo d c)) wr)) (fun iv _=>M - (intOf iv).toNat)
  case atStart=>exact⟨0,none,0,rfl,Nat.zero_le _,HS.out⟩
  case round =>
   obtain⟨i,va,vc,rfl,hi,hrel⟩:=hrel
   by_cases hlt:i < M
   ·obtain⟨b,o,k',dm',na',N',nc',ka',M',kc',⟨cap,hab⟩,hb,_,hE,c0,c1,c2,c3⟩:=kid_at HK.out (i:=i) (by rw[←HM.out];exact hlt)
    injection hab with hab hab2 hab3
    clear hab2 hab3
    subst hab
    have c0':=hrel.out.fr.cell c0 (by simp)
    have c1':=hrel.out.fr.cell c1 (by simp)
    have c2':=hrel.out.fr.cell c2 (by simp)
    have c3':=hrel.out.fr.cell c3 (by simp)
    clear c0 c1 c2 c3
    obtain⟨x,hx⟩:∃x,x=ks[i]'(by rw[←HM.out];exact hlt):=⟨_,rfl⟩
    rw[←hx] at hE
    have HX:Hid ((ks.take (i+1)).map (fo d c)=(ks.take i).map (fo d c)++[fo d c x]):=by show _=_;rw[List.take_succ_eq_append_getElem (by rw[←HM.out];exact hlt),List.map_append,hx];rfl
    have hq2:FQ d c x:=by rw[hx];exact HQ2.out _ (List.getElem_mem _)
    obtain⟨wk,hwk⟩:∃wk,wk=wr.alloc (.cells #[.int .i64 k',.int .i64 dm',.slice na' N' nc',.slice ka' M' kc'] 27):=⟨_,rfl⟩
    have fk:ZF wr wk:=by rw[hwk];exact (Fr.refl _ wr).alloc _
    have sk:wk.heap.size=wr.heap.size+1:=by rw[hwk];show (wr.heap.push _).size=_;rw[Array.size_push]
    have bk:wk.heap[wr.heap.size]?=some (.cells #[.int .i64 k',.int .i64 dm',.slice na' N' nc',.slice ka' M' kc'] 27 (0,0)):=by rw[hwk];exact zN wr _
    have ok:=(fk.block _ (zG hrel.out.o).1 (fun h=>h)).trans hrel.out.o
    have C39:Hid (Calls Tryz.prog 39 #[gv k' dm' (.slice na' N' nc') (.slice ka' M' kc'),.int .i64 c] wk.drew (ForcePost d c k' x wk.drew)):=IH.out _ _ _ _ _ _ _ hc ((GAt.kp d).kept (fun b _ hl=>((hrel.out.fr.trans fk).drew).block b hl (fun h=>h)) hE) hq2
    have HNX:Hid (∀(w5:World) (x0 x1 x2 x3:Value),ZF wk.drew w5→GAt d (fun b=>wk.drew.heap.size≤b) w5 [x0,x1,x2,x3] (fo d c x)→_):=fun w5 x0 x1 x2 x3 f g=>hrel.out.next (w5:=w5) ((fk.drew).trans f) (c0:=x0) (c1:=x1) (c2:=x2) (c3:=x3) (x:=fo d c x) ((GAt.kp d).mono (fun b hb _=>by have e:wk.drew.heap.size=wk.heap.size:=rfl;omega) g)
    have BK:=zH bk
    have OK:=zH ok
    have HWK:=zH hwk
    have HSZ:Hid (M0≤wr.heap.size∧w.heap.size+3≤M0):=⟨hrel.out.ms.2,hrel.out.ms.1⟩
    have K3:Hid (i+1≤maxLen):=by show _≤_;unfold maxLen;omega
    have K4:Hid ((i+1)*64≤140737488355328):=by show _≤_;omega
    clear hx hq2 fk hE hwk bk ok hb
    go_upto_region 6 with fail
    rw[←HWK.out]
    clear c0' c1' c2' c3'
    unfold gv at C39
    obtain⟨p0,p1,p2,p3⟩:=bx_cells BK.out
    obtain⟨o0,o1,o2,o3,of⟩:=g_cells (b:=w.heap.size+1+1) OK.out
    go_region_law (first|(go_simp;go_at_call 39;(with_reducible refine C39.out.mono ?_);rintro e w5 ⟨ra,rn,rc,sa,sn,sc,rfl,hp⟩;obtain⟨cs,hown,hnx⟩:=HNX.out _ _ _ _ _ hp.out.1 hp.out.2;have OWN:=zH hown;have NX:=zH hnx;clear hown hnx;have F5:=zH hp.out.1;clear hp;have BK5:=zH ((F5.out.block _ (zG BK.out).1 (fun h=>h)).trans BK.out);obtain⟨p0,p1,p2,p3⟩:=bx_cells BK5.out;obtain⟨o0,o1,o2,o3,of⟩:=g_cells (b:=w.heap.size+1+1) ((F5.out.block _ (zG OK.out).1 (fun h=>h)).trans OK.out);have o3n:∀ob:Obj,(w5.alloc ob).cell? ⟨w.heap.size+1+1,3,none⟩=some (.slice va i vc):=fun ob=>(World.cell?_of_block (Below.heap_alloc w5 ob _ (World.block_lt_of_cell? w5 _ o3))).trans o3)|(refine step_append_lies _ (by rfl) _ _ _ (by rfl) M0 27 i0 (.agg #[.int .i64 0,.int .i64 0,.slice none 0 0,.slice none 0 0]) 4 64 Tryz.underlying25 hi0 hz0 hz1 hz2 rfl (by decide) _ i cs (by rfl) (OWN.out.alloc _) ⟨_,0,none⟩ 1 1 [.int .i64 k',.int .i64 c,.slice ra rn rc,.slice sa sn sc] (by rfl) rfl (cell4_new _ _ _ _ _ _) (four_one _ _ _ _ _ _ _ _) (by omega) K3.out K4.out (by have h1:=F5.out.size;have h2:wk.drew.heap.size=wk.heap.size:=rfl;have h3:=HSZ.out;show _≤(w5.heap.push _).size;rw[Array.size_push];omega) _ rfl ?_;intro g6 cap6 w7 hown hgrow hat hlt7;have HH:=zH (NX.out _ _ _ hown hgrow (hat.imp (fun h=>h.symm) (fun h=>congrArg some h)));clear hown hgrow hat;obtain⟨o0,o1,o2,o3,of⟩:=g_cells (b:=w.heap.size+1+1) HH.out.1;obtain⟨p0,p1,p2,p3⟩:=bx_cells ((HH.out.2.1 _ (Nat.le_refl _) (zG BK5.out).1).trans BK5.out)))
    all_goals
     have HR:Hid (FoAt d w #[.int .i64 k,.int .i64 dn,.slice na N nc,.slice (some ⟨b,o,none⟩) M kc] k c (.slice xa xn xc) (nums c (places dn ns)) M0 (i+1) (.slice (some ⟨g6,0,none⟩) (i+1) cap6) ((ks.take (i+1)).map (fo d c)) (w7.setCell ⟨w.heap.size+1+1,3,none⟩ (.slice (some ⟨g6,0,none⟩) (i+1) cap6))):=by
      show FoAt _ _ _ _ _ _ _ _ _ _ _ _
      rw[HX.out]
      exact HH.out.2.2
     clear HH NX OWN F5 BK5 BK OK HWK HNX hrel o0 o1 o2 o3 of p0 p1 p2 p3 C39 HX
     go_wp2_with fail
     go_roundw
     case rel=>exact⟨i+1,_,_,by go_num,by omega,HR.out⟩
     case measure=>simp[intOf];omega
   ·have hiM:i=M:=by omega
    subst hiM
    obtain⟨p0,p1,p2,p3,pf⟩:=g_cells (b:=w.heap.size+1+1) hrel.out.o
    obtain⟨r0,r1,r2,r3,rf⟩:=g_cells (b:=w.heap.size+1) hrel.out.res
    have hfin:Hid (ForcePost (d+1) c k (.mk k dn ns ks) w (.returned (.agg #[.int .i64 k,.int .i64 c,.slice xa xn xc,.slice va i vc])) ((((wr.setCell ⟨w.heap.size+1,0,none⟩ (.int .i64 k)).setCell ⟨w.heap.size+1,1,none⟩ (.int .i64 c)).setCell ⟨w.heap.size+1,2,none⟩ (.slice xa xn xc)).setCell ⟨w.heap.size+1,3,none⟩ (.slice va i vc))):=by
     have ht:ks.take i=ks:=List.take_of_length_le (by rw[←HM.out];omega)
     have h1:=hrel.out
     rw[ht] at h1
     exact fo_post (dm:=dn) h1 (fr4 wr (w.heap.size+1) _ _ _ _) hk0 hk15 hc (by rw[Int.toNat_natCast];exact HLEN.out) (by rw[List.length_map,←HM.out];exact hM4)
    clear hrel
    go_wp2_with fail
    exact bodyPost_ret (v:=.agg #[.int .i64 k,.int .i64 c,.slice xa xn xc,.slice va i vc]) (by simp[results,Tryz.f39,go_sem,r0,r1,r2,r3]) rfl hfin.out
end Go.Proofs.YtnjjgbcmjnfijaaGreatDoor
