/- The byte, and the number, that the reference reads. No condition. -/
import Derived.Test.YtnjjgbcmjnfijaaGreatDoorG0
import Derived.Deep.QuietTactic
import Derived.BigQuiet
import Derived.Lib.LazyBuf
import Derived.Lib.BufferMore
import Derived.Lib.VarintDec
import Derived.Lib.VarintBits
import Derived.Deep.RegionLaw
namespace Go.Proofs.YtnjjgbcmjnfijaaGreatDoor
set_option maxHeartbeats 8000000
set_option maxRecDepth 100000
open Go.RowKit
def unz (z:Int):Int:=if z % 2=1 then -(z / 2) - 1 else z / 2
theorem unz_bound{z:Int}(h0:0≤z)(h1:z < 18446744073709551616): -9223372036854775808≤unz z∧unz z < 9223372036854775808:=by
 unfold unz;split<;>omega
theorem unz7(z:Int)(h0:0≤z)(h1:z < 18446744073709551616)(w:World):Calls Tryz.prog 7 #[.int .u64 z] w fun e w'=>e=.returned (.int .i64 (unz z))∧w=w':=by
 by_cases hz:z % 2=1
 ·have hu:unz z = -(z / 2) - 1:=by unfold unz;rw[if_pos hz]
  rw[hu]
  have t:(z % 2 == 1)=true:=by simp[hz]
  go_enter Tryz.func7,Tryz.ntmps7
  go_wp2_with fail
  go_ret
  exact⟨rfl,rfl⟩
 ·have hu:unz z=z / 2:=by unfold unz;rw[if_neg hz]
  rw[hu]
  have t:(z % 2 == 1)=false:=by simp;omega
  go_enter Tryz.func7,Tryz.ntmps7
  go_wp2_with fail
  go_ret
  exact⟨rfl,rfl⟩
theorem pow183(p:Nat)(hp:p≤8)(w:World):Calls Tryz.prog 183 #[.int .i64 p] w fun e w'=>e=.returned (.int .i64 ((10 ^ p:Nat):Int))∧w=w':=by
 go_enter Tryz.func183,Tryz.ntmps183
 go_wp2_with fail
 go_loop [3,5] (fun av iv=>∃k:Nat,k≤p∧av=.int .i64 ((10 ^ k:Nat):Int)∧iv=.int .i64 k) (fun _ iv=>p - (intOf iv).toNat)
 case atStart=>exact⟨0,Nat.zero_le _,rfl,rfl⟩
 case round =>
  obtain⟨k,hk,rfl,rfl⟩:=hrel
  by_cases hlt:k < p
  ·have hb:(10 ^ k:Nat)≤10 ^ 8:=Nat.pow_le_pow_right (by decide) (by omega)
   have he:(10 ^ (k+1):Nat)=10 ^ k*10:=Nat.pow_succ 10 k
   obtain⟨m,hm⟩:∃m:Nat,m=10 ^ k:=⟨_,rfl⟩
   rw[←hm] at hb he ⊢
   have HE:=zH he
   have HM:=zH hm
   clear he hm
   go_wp2_with fail
   go_round
   case rel=>exact⟨k+1,by omega,by rw[HE.out];go_num,by go_num⟩
   case measure=>simp[intOf];omega
  ·obtain rfl:k=p:=by omega
   go_wp2_with fail
   go_ret
   exact⟨rfl,rfl⟩
theorem RIn.cells{P:Nat→Prop}{r:Nat}{w:World}{l:List UInt8}{any bad unt:Bool}(h:RIn P r w l any bad unt):
  ∃v,BytesAt P w v l∧w.cell? ⟨r,0,none⟩=some v∧w.cell? ⟨r,1,none⟩=some (.bool any)∧w.cell? ⟨r,2,none⟩=some (.bool bad)∧w.cell? ⟨r,3,none⟩=some (.bool unt)∧∀o,w.frozen? ⟨r,o,none⟩=false:=by
 obtain⟨v,h1,h2,h3⟩:=h
 exact⟨v,h2,by rw[zC h1];rfl,by rw[zC h1];rfl,by rw[zC h1];rfl,by rw[zC h1];rfl,fun o=>zF h1 o⟩
theorem RIn.setBad{P:Nat→Prop}{r:Nat}{w:World}{l:List UInt8}{any bad unt:Bool}(h:RIn P r w l any bad unt)(x:Bool):RIn P r (w.setCell ⟨r,2,none⟩ (.bool x)) l any x unt:=by
 obtain⟨v,h1,h2,h3⟩:=h
 exact⟨v,Lib.heap_setCell_same (i:=2) h1 _,CellsAt.kept h2 (fun b hb _=>Below.heap_setCell _ _ _ _ (fun e=>h3 (by rw[show b=r from e] at hb;exact hb))),h3⟩
theorem RIn.setUnt{P:Nat→Prop}{r:Nat}{w:World}{l:List UInt8}{any bad unt:Bool}(h:RIn P r w l any bad unt)(x:Bool):RIn P r (w.setCell ⟨r,3,none⟩ (.bool x)) l any bad x:=by
 obtain⟨v,h1,h2,h3⟩:=h
 exact⟨v,Lib.heap_setCell_same (i:=3) h1 _,CellsAt.kept h2 (fun b hb _=>Below.heap_setCell _ _ _ _ (fun e=>h3 (by rw[show b=r from e] at hb;exact hb))),h3⟩
theorem RIn.drewN{P:Nat→Prop}{r:Nat}{w:World}{l:List UInt8}{any bad unt:Bool}(h:RIn P r w l any bad unt)(n:Nat):RIn P r (w.drewN n) l any bad unt:=by
 obtain⟨v,h1,h2,h3⟩:=h
 exact⟨v,h1,CellsAt.kept h2 (fun _ _ _=>rfl),h3⟩
theorem RIn.tail{P:Nat→Prop}{r:Nat}{w:World}{c:UInt8}{l:List UInt8}{any bad unt:Bool}{b o cap:Nat}(h:RIn P r w (c :: l) any bad unt)(h0:w.cell? ⟨r,0,none⟩=some (.slice (some ⟨b,o,none⟩) (l.length+1) cap))(a':Addr)(hb:0 < l.length→a'=⟨b,o+1,none⟩):RIn P r (w.setCell ⟨r,0,none⟩ (.slice (some a') l.length (cap - 1))) l any bad unt:=by
 obtain⟨v,h1,h2,h3⟩:=h
 have hv:v=.slice (some ⟨b,o,none⟩) (l.length+1) cap:=by
  rw[zC h1] at h0
  exact Option.some.inj h0
 subst hv
 refine⟨_,Lib.heap_setCell_same (i:=0) h1 _,?_,h3⟩
 obtain⟨k1,a,cp,e,k2,k3,k4⟩:=h2
 injection e with e1 e2 e3
 subst e1 e3
 refine CellsAt.kept (w:=w) ⟨by simp,_,_,rfl,by simp at k2;omega,fun e=>by simp at e,fun hl=>?_⟩ (fun b hb _=>Below.heap_setCell _ _ _ _ (fun e=>h3 (by rw[show b=r from e] at hb;exact hb)))
 obtain⟨b2,o2,e,hp,hc⟩:=k4 (by simp)
 injection e with e
 injection e with e1 e2
 subst e1 e2
 refine⟨b,o+1,by rw[hb hl],hp,fun j u hu=>?_⟩
 rw[show o+1+j=o+(j+1) by omega]
 exact hc (j+1) u (by simpa using hu)
def BytePost (P:Nat→Prop) (r:Nat) (l:List UInt8) (any bad unt:Bool) (w:World) (e:Ending) (w':World):Prop :=
 ∃(c:Nat) (l':List UInt8) (bad':Bool),e=.returned (.int .i64 c)∧Hid (c < 256∧RIn P r w' l' any bad' unt∧Fr (Eq r) w w'∧(bad=true→bad'=true)∧(unt=true→bad'=true)∧l'.length≤l.length∧(bad'=false→l=UInt8.ofNat c :: l')∧(bad'=true→c=0))
theorem BytePost.bad{P:Nat→Prop}{r:Nat}{l:List UInt8}{any bad unt:Bool}{w:World}(h:RIn P r w l any bad unt):BytePost P r l any bad unt w (.returned (.int .i64 0)) (w.setCell ⟨r,2,none⟩ (.bool true)) :=
 ⟨0,l,true,rfl,by decide,h.setBad true,(Fr.refl _ _).setR _,fun _=>rfl,fun _=>rfl,Nat.le_refl _,(fun h=>by cases h),fun _=>rfl⟩
theorem byte108(P:Nat→Prop)(r:Nat)(l:List UInt8)(any bad unt:Bool)(w:World)(hR:RIn P r w l any bad unt):
  Calls Tryz.prog 108 #[.pointer (some ⟨r,0,none⟩)] w (BytePost P r l any bad unt w):=by
 obtain⟨v,hb,c0,c1,c2,c3,hf⟩:=hR.cells
 obtain⟨k1,a,cap,rfl,k2,k3,k4⟩:=hb
 have HR:=zH hR
 have HK:=zH k4
 clear hR k1 k3 k4
 cases bad with
 | true =>
  go_enter Tryz.func108,Tryz.ntmps108
  go_wp2_with fail
  go_ret
  exact BytePost.bad HR.out
 | false =>
  cases unt with
  | true =>
   go_enter Tryz.func108,Tryz.ntmps108
   go_wp2_with fail
   go_ret
   exact BytePost.bad HR.out
  | false =>
   cases l with
   | nil =>
    go_enter Tryz.func108,Tryz.ntmps108
    go_wp2_with fail
    go_ret
    exact BytePost.bad HR.out
   | cons c l =>
    obtain⟨b,o,rfl,hp,hc⟩:=HK.out (by simp)
    have d0:w.cell? ⟨b,o,none⟩=some (.int .u8 c.toNat):=hc 0 _ rfl
    obtain⟨n,hn⟩:∃n,n=(c :: l).length:=⟨_,rfl⟩
    have hn1:1≤n:=by rw[hn];simp
    have hz:((n:Int) == 0)=false:=by rw[beq_eq_false_iff_ne];omega
    have hz2:¬n=0:=by omega
    rw[←hn] at c0 k2
    have HN:=zH hn
    have HC:=zH c0
    have hw:wrap64 (c.toNat:Int)=c.toNat:=by have:=c.toNat_lt;unfold wrap64;omega
    clear hc hn
    have fin:∀a':Addr,(0 < l.length→a'=⟨b,o+1,none⟩)→BytePost P r (c :: l) any false false w (.returned (.int .i64 c.toNat)) (w.setCell ⟨r,0,none⟩ (.slice (some a') (n - 1) (cap - 1))):=fun a' ha=>by
     have hl:l.length=n - 1:=by have h9:n=l.length+1:=HN.out;omega
     have h0:=HC.out
     rw[show n=l.length+1 by omega] at h0
     refine⟨c.toNat,l,false,rfl,by have:=c.toNat_lt;omega,?_,(Fr.refl _ _).setR _,fun h=>h,fun h=>h,Nat.le_succ _,(fun _=>by rw[show UInt8.ofNat c.toNat=c from by simp]),fun h=>by cases h⟩
     rw[←hl]
     exact HR.out.tail h0 a' ha
    have FIN:=zH fin
    clear fin
    by_cases hcap:cap=1
    ·have hl0:l.length=0:=by have h9:n=l.length+1:=HN.out;omega
     have HL:=zH hl0
     clear hl0
     go_enter Tryz.func108,Tryz.ntmps108
     go_wp2_with fail
     go_ret
     rw[hw]
     have hfin:=FIN.out ⟨b,o,none⟩ (fun h=>by have:=HL.out;omega)
     rw[hcap] at hfin
     exact hfin
    ·go_enter Tryz.func108,Tryz.ntmps108
     go_wp2_with fail
     go_ret
     rw[hw]
     exact FIN.out _ (fun _=>rfl)
def UV (l:List UInt8) (z:Nat) (l':List UInt8):Prop:=∃m:Nat,1≤m∧m≤l.length∧Lib.uvarintDec l=(z,(m:Int))∧l'=l.drop m
def NumPost (P:Nat→Prop) (r:Nat) (l:List UInt8) (any bad unt:Bool) (w:World) (e:Ending) (w':World):Prop :=
 ∃(z:Nat) (l':List UInt8) (bad':Bool),e=.returned (.int .u64 z)∧Hid (z < 18446744073709551616∧RIn P r w' l' any bad' unt∧Fr (Eq r) w w'∧(bad=true→bad'=true)∧(unt=true→bad'=true)∧l'.length≤l.length∧(bad'=false→UV l z l'))
structure NumAt (P:Nat→Prop) (r:Nat) (l:List UInt8) (any bad unt:Bool) (w:World) (k acc:Nat) (lk:List UInt8) (badk:Bool) (wr:World):Prop where
 inn:RIn P r wr lk any badk unt
 fr:Fr (Eq r) w wr
 len:lk.length≤l.length
 bad:bad=true→badk=true
 unt:0 < k→unt=true→badk=true
 ten:k=10→badk=true
 dec:badk=false→l.drop k=lk∧k≤l.length∧Lib.uvarintDec l=Lib.uvarintFrom k acc lk
structure ByteAt (P:Nat→Prop) (r:Nat) (l:List UInt8) (any bad unt:Bool) (w:World) (c:Nat) (l':List UInt8) (bad':Bool) (w':World):Prop where
 lt:c < 256
 inn:RIn P r w' l' any bad' unt
 fr:Fr (Eq r) w w'
 bad:bad=true→bad'=true
 unt:unt=true→bad'=true
 len:l'.length≤l.length
 fine:bad'=false→l=UInt8.ofNat c :: l'
 zero:bad'=true→c=0
theorem byteAt{P:Nat→Prop}{r:Nat}{l:List UInt8}{any bad unt:Bool}{w:World}(hR:RIn P r w l any bad unt):
  Calls Tryz.prog 108 #[.pointer (some ⟨r,0,none⟩)] w fun e w'=>∃(c:Nat) (l':List UInt8) (bad':Bool),e=.returned (.int .i64 c)∧Hid (ByteAt P r l any bad unt w c l' bad' w'):=by
 refine (byte108 P r l any bad unt w hR).mono ?_
 rintro e w' ⟨c,l',bad',rfl,h1,h2,h3,h4,h5,h6,h7,h8⟩
 exact⟨c,l',bad',rfl,h1,h2,h3,h4,h5,h6,h7,h8⟩
theorem NumAt.ret{P:Nat→Prop}{r:Nat}{l:List UInt8}{any bad unt:Bool}{w:World}{k acc:Nat}{lk:List UInt8}{badk:Bool}{wr:World}(h:NumAt P r l any bad unt w k acc lk badk wr)
  {c:Nat}{l1:List UInt8}{bad1:Bool}{w1:World} (hb:ByteAt P r lk any badk unt wr c l1 bad1 w1) (hc:c < 128) (hk:k≤9) (h9:k=9→c≤1) (v:Nat) (hv:v=acc+c*2 ^ (7*k)) (hlt:v < 18446744073709551616) :
  NumPost P r l any bad unt w (.returned (.int .u64 v)) w1:=by
 subst hv
 refine⟨_,l1,bad1,rfl,hlt,hb.inn,h.fr.trans hb.fr,fun e=>hb.bad (h.bad e),hb.unt,Nat.le_trans hb.len h.len,fun e=>?_⟩
 have hlk:=hb.fine e
 have hbk:badk=false:=by
  cases hbk:badk with
  | false=>rfl
  | true=>rw[hb.bad hbk] at e;cases e
 obtain⟨d1,d2,d3⟩:=h.dec hbk
 have hkl:k < l.length:=by
  have:=congrArg List.length d1
  rw[List.length_drop,hlk,List.length_cons] at this
  omega
 refine⟨k+1,by omega,by omega,?_,?_⟩
 ·rw[d3,hlk]
  have ht:(UInt8.ofNat c).toNat=c:=by simp;omega
  have hg:¬(k=9∧1 < c):=fun hh=>by have:=h9 hh.1;omega
  simp only[Lib.uvarintFrom,ht,hc,if_true,hg,if_false,show ¬k=10 by omega]
  rfl
 ·rw[←List.drop_drop,d1,hlk];rfl
theorem NumAt.next{P:Nat→Prop}{r:Nat}{l:List UInt8}{any bad unt:Bool}{w:World}{k acc:Nat}{lk:List UInt8}{badk:Bool}{wr:World}(h:NumAt P r l any bad unt w k acc lk badk wr)
  {c:Nat}{l1:List UInt8}{bad1:Bool}{w1:World} (hb:ByteAt P r lk any badk unt wr c l1 bad1 w1) (hc:¬c < 128) (hk:k≤8) (v:Nat) (hv:v=acc+c % 128*2 ^ (7*k)) :
  NumAt P r l any bad unt w (k+1) v l1 bad1 w1:=by
 have e:bad1=false:=by
  cases e:bad1 with
  | false=>rfl
  | true=>have:=hb.zero e;omega
 have hlk:=hb.fine e
 have hbk:badk=false:=by
  cases hbk:badk with
  | false=>rfl
  | true=>rw[hb.bad hbk] at e;cases e
 obtain⟨d1,d2,d3⟩:=h.dec hbk
 have hkl:k < l.length:=by
  have:=congrArg List.length d1
  rw[List.length_drop,hlk,List.length_cons] at this
  omega
 refine⟨hb.inn,h.fr.trans hb.fr,Nat.le_trans hb.len h.len,fun e=>hb.bad (h.bad e),fun _=>hb.unt,fun e=>by omega,fun _=>⟨?_,by omega,?_⟩⟩
 ·rw[←List.drop_drop,d1,hlk];rfl
 ·rw[d3,hlk,hv]
  have ht:(UInt8.ofNat c).toNat=c:=by have:=hb.lt;simp;omega
  simp only[Lib.uvarintFrom,ht,hc,if_false,show ¬k=10 by omega]
theorem NumAt.last{P:Nat→Prop}{r:Nat}{l:List UInt8}{any bad unt:Bool}{w:World}{k acc:Nat}{lk:List UInt8}{badk:Bool}{wr:World}(h:NumAt P r l any bad unt w k acc lk badk wr)
  {c:Nat}{l1:List UInt8}{bad1:Bool}{w1:World} (hb:ByteAt P r lk any badk unt wr c l1 bad1 w1) (v:Nat) :
  NumAt P r l any bad unt w 10 v l1 true (w1.setCell ⟨r,2,none⟩ (.bool true)) :=
 ⟨hb.inn.setBad true,(h.fr.trans hb.fr).setR _,Nat.le_trans hb.len h.len,fun _=>rfl,fun _ _=>rfl,fun _=>rfl,fun e=>by cases e⟩
theorem NumAt.end_{P:Nat→Prop}{r:Nat}{l:List UInt8}{any bad unt:Bool}{w:World}{k acc:Nat}{lk:List UInt8}{badk:Bool}{wr:World}(h:NumAt P r l any bad unt w k acc lk badk wr)(hb:badk=true)(v:Nat)(hv:v < 18446744073709551616):
  NumPost P r l any bad unt w (.returned (.int .u64 v)) wr:=by
 subst hb
 exact⟨v,lk,true,rfl,hv,h.inn,h.fr,fun _=>rfl,fun _=>rfl,h.len,fun e=>by cases e⟩
theorem and127:∀c:Fin 256,bits .and .i64 (c.val:Int) 127=((c.val % 128:Nat):Int):=by decide
theorem num109(P:Nat→Prop)(r:Nat)(l:List UInt8)(any bad unt:Bool)(w:World)(hR:RIn P r w l any bad unt):
  Calls Tryz.prog 109 #[.pointer (some ⟨r,0,none⟩)] w (NumPost P r l any bad unt w):=by
 have HR:=zH hR
 have HF:Hid (w.frozen? ⟨r,2,none⟩=false):=hR.cells.choose_spec.2.2.2.2.2 2
 clear hR
 go_enter Tryz.func109,Tryz.ntmps109
 go_wp2_with fail
 go_loopw [3,6] (fun nv iv wr=>∃k acc:Nat,k≤10∧iv=.int .i64 k∧nv=.int .u64 acc∧acc < 2 ^ (7*k)∧acc < 18446744073709551616∧Hid (∃lk badk,NumAt P r l any bad unt w k acc lk badk wr)) (fun _ iv _=>10 - (intOf iv).toNat)
 case atStart=>exact⟨0,0,by omega,rfl,rfl,Nat.one_pos,by omega,l,bad,HR.out,Fr.refl _ _,Nat.le_refl _,fun h=>h,fun h=>by omega,fun h=>by omega,fun _=>⟨rfl,by omega,rfl⟩⟩
 case round =>
  obtain⟨k,acc,hk,rfl,rfl,hacc,hacc64,hrel⟩:=hrel
  have hks:k=0∨k=1∨k=2∨k=3∨k=4∨k=5∨k=6∨k=7∨k=8∨k=9∨k=10:=by omega
  clear hk
  obtain⟨lk,badk,hN⟩:=hrel.out
  have HN:=zH hN
  have HC:=zH (byteAt hN.inn)
  clear hrel hN
  rcases hks with rfl|rfl|rfl|rfl|rfl|rfl|rfl|rfl|rfl|rfl|rfl
  ·have hacc':acc < 1:=by simpa using hacc
   clear hacc hacc64
   go_upto_region 6 with (go_at_call 108;refine HC.out.mono ?_;rintro e w1 ⟨c,l1,bad1,rfl,h1⟩)
   have hc256:=h1.out.lt
   have hand:bits .and .i64 (c:Int) 127=((c % 128:Nat):Int):=and127 ⟨c,hc256⟩
   obtain⟨m,hm⟩:∃m,m=c % 128:=⟨_,rfl⟩
   rw[←hm] at hand
   have hm1:m < 128:=by omega
   have hor:bits .or .u64 (acc:Int) (m:Int)=((acc+m:Nat):Int):=by
    rw[u64_orv0 _ _ (by omega) (by omega) (by omega) (by omega) (by omega)]
    omega
   have ha:acc+m < 18446744073709551616:=by omega
   obtain⟨v,hv⟩:∃v,v=acc+m:=⟨_,rfl⟩
   rw[←hv] at hor ha
   have hv3:v < 128:=by omega
   have HV:Hid (v=acc+c % 128*2 ^ (7*0)):=by
    show _=_
    rw[←hm,hv]
    try simp
   have HM:=zH hm
   have HA:=zH ha
   have HV3:=zH hv3
   clear hm hv ha hv3
   by_cases hc:c < 128
   ·go_wp2_with fail
    go_ret
    exact HN.out.ret h1.out hc (by decide) (fun e=>by omega) _ (by rw[HV.out,Nat.mod_eq_of_lt hc]) HA.out
   ·go_wp2_with fail
    go_roundw
    case rel=>exact⟨1,v,by decide,rfl,rfl,by simpa using HV3.out,HA.out,_,_,HN.out.next h1.out hc (by decide) v HV.out⟩
    case measure=>simp[intOf]
  ·have hacc':acc < 128:=by simpa using hacc
   clear hacc hacc64
   go_upto_region 6 with (go_at_call 108;refine HC.out.mono ?_;rintro e w1 ⟨c,l1,bad1,rfl,h1⟩)
   have hc256:=h1.out.lt
   have hand:bits .and .i64 (c:Int) 127=((c % 128:Nat):Int):=and127 ⟨c,hc256⟩
   obtain⟨m,hm⟩:∃m,m=c % 128:=⟨_,rfl⟩
   rw[←hm] at hand
   have hm1:m < 128:=by omega
   have hor:bits .or .u64 (acc:Int) ((m:Int)*128)=((acc+m*128:Nat):Int):=by
    rw[u64_orv7 _ _ (by omega) (by omega) (by omega) (by omega) (by omega)]
    omega
   have ha:acc+m*128 < 18446744073709551616:=by omega
   obtain⟨v,hv⟩:∃v,v=acc+m*128:=⟨_,rfl⟩
   rw[←hv] at hor ha
   have hv3:v < 16384:=by omega
   have HV:Hid (v=acc+c % 128*2 ^ (7*1)):=by
    show _=_
    rw[←hm,hv]
    try simp
   have HM:=zH hm
   have HA:=zH ha
   have HV3:=zH hv3
   clear hm hv ha hv3
   by_cases hc:c < 128
   ·go_wp2_with fail
    go_ret
    exact HN.out.ret h1.out hc (by decide) (fun e=>by omega) _ (by rw[HV.out,Nat.mod_eq_of_lt hc]) HA.out
   ·go_wp2_with fail
    go_roundw
    case rel=>exact⟨2,v,by decide,rfl,rfl,by simpa using HV3.out,HA.out,_,_,HN.out.next h1.out hc (by decide) v HV.out⟩
    case measure=>simp[intOf]
  ·have hacc':acc < 16384:=by simpa using hacc
   clear hacc hacc64
   go_upto_region 6 with (go_at_call 108;refine HC.out.mono ?_;rintro e w1 ⟨c,l1,bad1,rfl,h1⟩)
   have hc256:=h1.out.lt
   have hand:bits .and .i64 (c:Int) 127=((c % 128:Nat):Int):=and127 ⟨c,hc256⟩
   obtain⟨m,hm⟩:∃m,m=c % 128:=⟨_,rfl⟩
   rw[←hm] at hand
   have hm1:m < 128:=by omega
   have hor:bits .or .u64 (acc:Int) ((m:Int)*16384)=((acc+m*16384:Nat):Int):=by
    rw[u64_orv14 _ _ (by omega) (by omega) (by omega) (by omega) (by omega)]
    omega
   have ha:acc+m*16384 < 18446744073709551616:=by omega
   obtain⟨v,hv⟩:∃v,v=acc+m*16384:=⟨_,rfl⟩
   rw[←hv] at hor ha
   have hv3:v < 2097152:=by omega
   have HV:Hid (v=acc+c % 128*2 ^ (7*2)):=by
    show _=_
    rw[←hm,hv]
    try simp
   have HM:=zH hm
   have HA:=zH ha
   have HV3:=zH hv3
   clear hm hv ha hv3
   by_cases hc:c < 128
   ·go_wp2_with fail
    go_ret
    exact HN.out.ret h1.out hc (by decide) (fun e=>by omega) _ (by rw[HV.out,Nat.mod_eq_of_lt hc]) HA.out
   ·go_wp2_with fail
    go_roundw
    case rel=>exact⟨3,v,by decide,rfl,rfl,by simpa using HV3.out,HA.out,_,_,HN.out.next h1.out hc (by decide) v HV.out⟩
    case measure=>simp[intOf]
  ·have hacc':acc < 2097152:=by simpa using hacc
   clear hacc hacc64
   go_upto_region 6 with (go_at_call 108;refine HC.out.mono ?_;rintro e w1 ⟨c,l1,bad1,rfl,h1⟩)
   have hc256:=h1.out.lt
   have hand:bits .and .i64 (c:Int) 127=((c % 128:Nat):Int):=and127 ⟨c,hc256⟩
   obtain⟨m,hm⟩:∃m,m=c % 128:=⟨_,rfl⟩
   rw[←hm] at hand
   have hm1:m < 128:=by omega
   have hor:bits .or .u64 (acc:Int) ((m:Int)*2097152)=((acc+m*2097152:Nat):Int):=by
    rw[u64_orv21 _ _ (by omega) (by omega) (by omega) (by omega) (by omega)]
    omega
   have ha:acc+m*2097152 < 18446744073709551616:=by omega
   obtain⟨v,hv⟩:∃v,v=acc+m*2097152:=⟨_,rfl⟩
   rw[←hv] at hor ha
   have hv3:v < 268435456:=by omega
   have HV:Hid (v=acc+c % 128*2 ^ (7*3)):=by
    show _=_
    rw[←hm,hv]
    try simp
   have HM:=zH hm
   have HA:=zH ha
   have HV3:=zH hv3
   clear hm hv ha hv3
   by_cases hc:c < 128
   ·go_wp2_with fail
    go_ret
    exact HN.out.ret h1.out hc (by decide) (fun e=>by omega) _ (by rw[HV.out,Nat.mod_eq_of_lt hc]) HA.out
   ·go_wp2_with fail
    go_roundw
    case rel=>exact⟨4,v,by decide,rfl,rfl,by simpa using HV3.out,HA.out,_,_,HN.out.next h1.out hc (by decide) v HV.out⟩
    case measure=>simp[intOf]
  ·have hacc':acc < 268435456:=by simpa using hacc
   clear hacc hacc64
   go_upto_region 6 with (go_at_call 108;refine HC.out.mono ?_;rintro e w1 ⟨c,l1,bad1,rfl,h1⟩)
   have hc256:=h1.out.lt
   have hand:bits .and .i64 (c:Int) 127=((c % 128:Nat):Int):=and127 ⟨c,hc256⟩
   obtain⟨m,hm⟩:∃m,m=c % 128:=⟨_,rfl⟩
   rw[←hm] at hand
   have hm1:m < 128:=by omega
   have hor:bits .or .u64 (acc:Int) ((m:Int)*268435456)=((acc+m*268435456:Nat):Int):=by
    rw[u64_orv28 _ _ (by omega) (by omega) (by omega) (by omega) (by omega)]
    omega
   have ha:acc+m*268435456 < 18446744073709551616:=by omega
   obtain⟨v,hv⟩:∃v,v=acc+m*268435456:=⟨_,rfl⟩
   rw[←hv] at hor ha
   have hv3:v < 34359738368:=by omega
   have HV:Hid (v=acc+c % 128*2 ^ (7*4)):=by
    show _=_
    rw[←hm,hv]
    try simp
   have HM:=zH hm
   have HA:=zH ha
   have HV3:=zH hv3
   clear hm hv ha hv3
   by_cases hc:c < 128
   ·go_wp2_with fail
    go_ret
    exact HN.out.ret h1.out hc (by decide) (fun e=>by omega) _ (by rw[HV.out,Nat.mod_eq_of_lt hc]) HA.out
   ·go_wp2_with fail
    go_roundw
    case rel=>exact⟨5,v,by decide,rfl,rfl,by simpa using HV3.out,HA.out,_,_,HN.out.next h1.out hc (by decide) v HV.out⟩
    case measure=>simp[intOf]
  ·have hacc':acc < 34359738368:=by simpa using hacc
   clear hacc hacc64
   go_upto_region 6 with (go_at_call 108;refine HC.out.mono ?_;rintro e w1 ⟨c,l1,bad1,rfl,h1⟩)
   have hc256:=h1.out.lt
   have hand:bits .and .i64 (c:Int) 127=((c % 128:Nat):Int):=and127 ⟨c,hc256⟩
   obtain⟨m,hm⟩:∃m,m=c % 128:=⟨_,rfl⟩
   rw[←hm] at hand
   have hm1:m < 128:=by omega
   have hor:bits .or .u64 (acc:Int) ((m:Int)*34359738368)=((acc+m*34359738368:Nat):Int):=by
    rw[u64_orv35 _ _ (by omega) (by omega) (by omega) (by omega) (by omega)]
    omega
   have ha:acc+m*34359738368 < 18446744073709551616:=by omega
   obtain⟨v,hv⟩:∃v,v=acc+m*34359738368:=⟨_,rfl⟩
   rw[←hv] at hor ha
   have hv3:v < 4398046511104:=by omega
   have HV:Hid (v=acc+c % 128*2 ^ (7*5)):=by
    show _=_
    rw[←hm,hv]
    try simp
   have HM:=zH hm
   have HA:=zH ha
   have HV3:=zH hv3
   clear hm hv ha hv3
   by_cases hc:c < 128
   ·go_wp2_with fail
    go_ret
    exact HN.out.ret h1.out hc (by decide) (fun e=>by omega) _ (by rw[HV.out,Nat.mod_eq_of_lt hc]) HA.out
   ·go_wp2_with fail
    go_roundw
    case rel=>exact⟨6,v,by decide,rfl,rfl,by simpa using HV3.out,HA.out,_,_,HN.out.next h1.out hc (by decide) v HV.out⟩
    case measure=>simp[intOf]
  ·have hacc':acc < 4398046511104:=by simpa using hacc
   clear hacc hacc64
   go_upto_region 6 with (go_at_call 108;refine HC.out.mono ?_;rintro e w1 ⟨c,l1,bad1,rfl,h1⟩)
   have hc256:=h1.out.lt
   have hand:bits .and .i64 (c:Int) 127=((c % 128:Nat):Int):=and127 ⟨c,hc256⟩
   obtain⟨m,hm⟩:∃m,m=c % 128:=⟨_,rfl⟩
   rw[←hm] at hand
   have hm1:m < 128:=by omega
   have hor:bits .or .u64 (acc:Int) ((m:Int)*4398046511104)=((acc+m*4398046511104:Nat):Int):=by
    rw[u64_orv42 _ _ (by omega) (by omega) (by omega) (by omega) (by omega)]
    omega
   have ha:acc+m*4398046511104 < 18446744073709551616:=by omega
   obtain⟨v,hv⟩:∃v,v=acc+m*4398046511104:=⟨_,rfl⟩
   rw[←hv] at hor ha
   have hv3:v < 562949953421312:=by omega
   have HV:Hid (v=acc+c % 128*2 ^ (7*6)):=by
    show _=_
    rw[←hm,hv]
    try simp
   have HM:=zH hm
   have HA:=zH ha
   have HV3:=zH hv3
   clear hm hv ha hv3
   by_cases hc:c < 128
   ·go_wp2_with fail
    go_ret
    exact HN.out.ret h1.out hc (by decide) (fun e=>by omega) _ (by rw[HV.out,Nat.mod_eq_of_lt hc]) HA.out
   ·go_wp2_with fail
    go_roundw
    case rel=>exact⟨7,v,by decide,rfl,rfl,by simpa using HV3.out,HA.out,_,_,HN.out.next h1.out hc (by decide) v HV.out⟩
    case measure=>simp[intOf]
  ·have hacc':acc < 562949953421312:=by simpa using hacc
   clear hacc hacc64
   go_upto_region 6 with (go_at_call 108;refine HC.out.mono ?_;rintro e w1 ⟨c,l1,bad1,rfl,h1⟩)
   have hc256:=h1.out.lt
   have hand:bits .and .i64 (c:Int) 127=((c % 128:Nat):Int):=and127 ⟨c,hc256⟩
   obtain⟨m,hm⟩:∃m,m=c % 128:=⟨_,rfl⟩
   rw[←hm] at hand
   have hm1:m < 128:=by omega
   have hor:bits .or .u64 (acc:Int) ((m:Int)*562949953421312)=((acc+m*562949953421312:Nat):Int):=by
    rw[u64_orv49 _ _ (by omega) (by omega) (by omega) (by omega) (by omega)]
    omega
   have ha:acc+m*562949953421312 < 18446744073709551616:=by omega
   obtain⟨v,hv⟩:∃v,v=acc+m*562949953421312:=⟨_,rfl⟩
   rw[←hv] at hor ha
   have hv3:v < 72057594037927936:=by omega
   have HV:Hid (v=acc+c % 128*2 ^ (7*7)):=by
    show _=_
    rw[←hm,hv]
    try simp
   have HM:=zH hm
   have HA:=zH ha
   have HV3:=zH hv3
   clear hm hv ha hv3
   by_cases hc:c < 128
   ·go_wp2_with fail
    go_ret
    exact HN.out.ret h1.out hc (by decide) (fun e=>by omega) _ (by rw[HV.out,Nat.mod_eq_of_lt hc]) HA.out
   ·go_wp2_with fail
    go_roundw
    case rel=>exact⟨8,v,by decide,rfl,rfl,by simpa using HV3.out,HA.out,_,_,HN.out.next h1.out hc (by decide) v HV.out⟩
    case measure=>simp[intOf]
  ·have hacc':acc < 72057594037927936:=by simpa using hacc
   clear hacc hacc64
   go_upto_region 6 with (go_at_call 108;refine HC.out.mono ?_;rintro e w1 ⟨c,l1,bad1,rfl,h1⟩)
   have hc256:=h1.out.lt
   have hand:bits .and .i64 (c:Int) 127=((c % 128:Nat):Int):=and127 ⟨c,hc256⟩
   obtain⟨m,hm⟩:∃m,m=c % 128:=⟨_,rfl⟩
   rw[←hm] at hand
   have hm1:m < 128:=by omega
   have hor:bits .or .u64 (acc:Int) ((m:Int)*72057594037927936)=((acc+m*72057594037927936:Nat):Int):=by
    rw[u64_orv56 _ _ (by omega) (by omega) (by omega) (by omega) (by omega)]
    omega
   have ha:acc+m*72057594037927936 < 18446744073709551616:=by omega
   obtain⟨v,hv⟩:∃v,v=acc+m*72057594037927936:=⟨_,rfl⟩
   rw[←hv] at hor ha
   have hv3:v < 9223372036854775808:=by omega
   have HV:Hid (v=acc+c % 128*2 ^ (7*8)):=by
    show _=_
    rw[←hm,hv]
    try simp
   have HM:=zH hm
   have HA:=zH ha
   have HV3:=zH hv3
   clear hm hv ha hv3
   by_cases hc:c < 128
   ·go_wp2_with fail
    go_ret
    exact HN.out.ret h1.out hc (by decide) (fun e=>by omega) _ (by rw[HV.out,Nat.mod_eq_of_lt hc]) HA.out
   ·go_wp2_with fail
    go_roundw
    case rel=>exact⟨9,v,by decide,rfl,rfl,by simpa using HV3.out,HA.out,_,_,HN.out.next h1.out hc (by decide) v HV.out⟩
    case measure=>simp[intOf]
  ·have hacc':acc < 9223372036854775808:=by simpa using hacc
   clear hacc hacc64
   go_upto_region 6 with (go_at_call 108;refine HC.out.mono ?_;rintro e w1 ⟨c,l1,bad1,rfl,h1⟩)
   have hc256:=h1.out.lt
   have hand:bits .and .i64 (c:Int) 127=((c % 128:Nat):Int):=and127 ⟨c,hc256⟩
   obtain⟨m,hm⟩:∃m,m=c % 128:=⟨_,rfl⟩
   rw[←hm] at hand
   have hm1:m < 128:=by omega
   by_cases hc1:c≤1
   ·have hm2:m=c:=by omega
    have hor:bits .or .u64 (acc:Int) ((m:Int)*9223372036854775808)=((acc+m*9223372036854775808:Nat):Int):=by
     rw[u64_orv63 _ _ (by omega) (by omega) (by omega) (by omega) (by omega)]
     omega
    have ha:acc+m*9223372036854775808 < 18446744073709551616:=by omega
    obtain⟨v,hv⟩:∃v,v=acc+m*9223372036854775808:=⟨_,rfl⟩
    rw[←hv] at hor ha
    have HV:Hid (v=acc+c*2 ^ (7*9)):=by
     show _=_
     rw[←hm2,hv]
     try simp
    have HM:=zH hm
    have HA:=zH ha
    have hc2:c < 128:=by omega
    have hm3:m≤1:=by omega
    clear hm hv ha hm2
    go_wp2_with fail
    go_ret
    exact HN.out.ret h1.out hc2 (by decide) (fun _=>hc1) _ HV.out HA.out
   ·have hgt:¬(c:Int)≤1:=by omega
    have hnx:∃v:Nat,v < 18446744073709551616∧bits .or .u64 (acc:Int) (IntKind.u64.wrap ((m:Int)*9223372036854775808))=(v:Int):=by
     rw[IntKind.wrap_u64]
     have e:(m:Int)*9223372036854775808 % 18446744073709551616=((m % 2*9223372036854775808:Nat):Int):=by omega
     rw[e,u64_orv63 _ _ (by omega) (by omega) (by omega) (by omega) (by omega)]
     exact⟨acc+m % 2*9223372036854775808,by omega,by omega⟩
    obtain⟨v,hv1,hor⟩:=hnx
    have HA:=zH hv1
    have HM:=zH hm
    have f2:w1.frozen? ⟨r,2,none⟩=false:=h1.out.inn.cells.choose_spec.2.2.2.2.2 2
    obtain⟨vb,hvb⟩:∃vb,w1.cell? ⟨r,2,none⟩=some (.bool vb):=⟨_,h1.out.inn.cells.choose_spec.2.2.2.1⟩
    clear hm hv1
    by_cases hc:c < 128
    ·go_wp2_with fail
     go_ret
     exact (HN.out.last h1.out v).end_ rfl _ HA.out
    ·go_wp2_with fail
     go_roundw
     case rel=>exact⟨10,v,by decide,rfl,rfl,by simpa using Nat.lt_trans HA.out (by decide),HA.out,_,_,HN.out.last h1.out v⟩
     case measure=>simp[intOf]
  ·have HA:=zH hacc64
   clear hacc hacc64
   go_wp2_with fail
   go_ret
   exact HN.out.end_ (HN.out.ten rfl) _ HA.out
end Go.Proofs.YtnjjgbcmjnfijaaGreatDoor
