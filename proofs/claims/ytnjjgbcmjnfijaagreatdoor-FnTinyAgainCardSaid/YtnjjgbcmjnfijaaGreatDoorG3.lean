/- The count, the difference and the value that the reference reads. No condition. -/
import Derived.Test.YtnjjgbcmjnfijaaGreatDoorG1
import Derived.Test.YtnjjgbcmjnfijaaGreatDoorFv
import Derived.Laws.FloatArith
import Derived.Laws.Cover2
namespace Go.Proofs.YtnjjgbcmjnfijaaGreatDoor
set_option maxHeartbeats 2000000
open Go.RowKit
structure St (R P:Nat→Prop) (r:Nat) (l:List UInt8) (any bad unt:Bool) (w:World) (l':List UInt8) (bad' unt':Bool) (w':World):Prop where
 inn:RIn P r w' l' any bad' unt'
 fr:Fr R w w'
 bad:bad=true→bad'=true
 unt:unt=true→unt'=true
 len:l'.length≤l.length
section
variable {R P:Nat→Prop}{r:Nat}{l l1 l2:List UInt8}{any bad unt bad1 unt1 bad2 unt2:Bool}{w w1 w2:World}
theorem St.refl(h:RIn P r w l any bad unt):St R P r l any bad unt w l bad unt w :=
 ⟨h,Fr.refl _ _,fun h=>h,fun h=>h,Nat.le_refl _⟩
theorem St.trans(h:St R P r l any bad unt w l1 bad1 unt1 w1)(k:St R P r l1 any bad1 unt1 w1 l2 bad2 unt2 w2):St R P r l any bad unt w l2 bad2 unt2 w2 :=
 ⟨k.inn,h.fr.trans k.fr,fun e=>k.bad (h.bad e),fun e=>k.unt (h.unt e),Nat.le_trans k.len h.len⟩
theorem St.weak{S:Nat→Prop}(h:St R P r l any bad unt w l1 bad1 unt1 w1)(hs:∀k,R k→S k):St S P r l any bad unt w l1 bad1 unt1 w1 :=
 ⟨h.inn,h.fr.weak hs,h.bad,h.unt,h.len⟩
theorem St.setUnt(h:St R P r l any bad unt w l1 bad1 unt1 w1)(x:Bool)(hx:unt1=true→x=true)(hr:R r:=by rfl):St R P r l any bad unt w l1 bad1 x (w1.setCell ⟨r,3,none⟩ (.bool x)) :=
 ⟨h.inn.setUnt x,h.fr.setR _ hr,h.bad,fun e=>hx (h.unt e),h.len⟩
theorem St.setBad(h:St R P r l any bad unt w l1 bad1 unt1 w1)(hr:R r:=by rfl):St R P r l any bad unt w l1 true unt1 (w1.setCell ⟨r,2,none⟩ (.bool true)) :=
 ⟨h.inn.setBad true,h.fr.setR _ hr,fun _=>rfl,h.unt,h.len⟩
theorem St.drewN(h:St R P r l any bad unt w l1 bad1 unt1 w1)(n:Nat):St R P r l any bad unt w l1 bad1 unt1 (w1.drewN n) :=
 ⟨h.inn.drewN n,h.fr.drewN n,h.bad,h.unt,h.len⟩
end
theorem RIn.fz{P:Nat→Prop}{r:Nat}{w:World}{l:List UInt8}{any bad unt:Bool}(h:RIn P r w l any bad unt)(o:Nat):w.frozen? ⟨r,o,none⟩=false:=h.cells.choose_spec.2.2.2.2.2 o
theorem RIn.c0{P:Nat→Prop}{r:Nat}{w:World}{l:List UInt8}{any bad unt:Bool}(h:RIn P r w l any bad unt):∃v,BytesAt P w v l∧w.cell? ⟨r,0,none⟩=some v:=⟨_,h.cells.choose_spec.1,h.cells.choose_spec.2.1⟩
theorem RIn.c1{P:Nat→Prop}{r:Nat}{w:World}{l:List UInt8}{any bad unt:Bool}(h:RIn P r w l any bad unt):w.cell? ⟨r,1,none⟩=some (.bool any):=h.cells.choose_spec.2.2.1
theorem RIn.c2{P:Nat→Prop}{r:Nat}{w:World}{l:List UInt8}{any bad unt:Bool}(h:RIn P r w l any bad unt):w.cell? ⟨r,2,none⟩=some (.bool bad):=h.cells.choose_spec.2.2.2.1
theorem RIn.c3{P:Nat→Prop}{r:Nat}{w:World}{l:List UInt8}{any bad unt:Bool}(h:RIn P r w l any bad unt):w.cell? ⟨r,3,none⟩=some (.bool unt):=h.cells.choose_spec.2.2.2.2.1
structure NumOf (P:Nat→Prop) (r:Nat) (l:List UInt8) (any bad unt:Bool) (w:World) (z:Nat) (l':List UInt8) (bad':Bool) (w':World):Prop where
 lt:z < 18446744073709551616
 st:St (Eq r) P r l any bad unt w l' bad' unt w'
 unt:unt=true→bad'=true
 fine:bad'=false→UV l z l'
theorem numOf{P:Nat→Prop}{r:Nat}{l:List UInt8}{any bad unt:Bool}{w:World}(hR:RIn P r w l any bad unt):
  Calls Tryz.prog 109 #[.pointer (some ⟨r,0,none⟩)] w fun e w'=>∃(z:Nat) (l':List UInt8) (bad':Bool),e=.returned (.int .u64 z)∧Hid (NumOf P r l any bad unt w z l' bad' w'):=by
 refine (num109 P r l any bad unt w hR).mono ?_
 rintro e w' ⟨z,l',bad',rfl,h1,h2,h3,h4,h5,h6,h7⟩
 exact⟨z,l',bad',rfl,h1,⟨h2,h3,h4,fun h=>h,h6⟩,h5,h7⟩
def CountPost (P:Nat→Prop) (r:Nat) (l:List UInt8) (any bad unt:Bool) (w:World) (e:Ending) (w':World):Prop :=
 ∃(n:Nat) (l':List UInt8) (bad' unt':Bool),e=.returned (.int .i64 n)∧Hid (n≤4096∧St (Eq r) P r l any bad unt w l' bad' unt' w'∧(bad'=false→unt'=false→UV l n l'))
theorem count113(P:Nat→Prop)(r:Nat)(l:List UInt8)(any bad unt:Bool)(w:World)(hR:RIn P r w l any bad unt):
  Calls Tryz.prog 113 #[.pointer (some ⟨r,0,none⟩)] w (CountPost P r l any bad unt w):=by
 have HC:=zH (numOf hR)
 clear hR
 go_enter Tryz.func113,Tryz.ntmps113
 go_upto_region 2 with (go_at_call 109;refine HC.out.mono ?_;rintro e w1 ⟨z,l1,bad1,rfl,h1⟩)
 have f3:=h1.out.st.inn.fz 3
 have c3:=h1.out.st.inn.c3
 have hz:=h1.out.lt
 by_cases hg:4096 < z
 ·go_wp2_with fail
  go_ret
  exact⟨0,l1,bad1,true,rfl,by omega,h1.out.st.setUnt true (fun _=>rfl),fun _ h=>by cases h⟩
 ·go_wp2_with fail
  go_ret
  exact⟨z,l1,bad1,unt,rfl,by omega,h1.out.st,fun h _=>h1.out.fine h⟩
def StepPost (P:Nat→Prop) (r:Nat) (l:List UInt8) (any bad unt:Bool) (w:World) (o:Int) (e:Ending) (w':World):Prop :=
 ∃(n:Int) (l':List UInt8) (bad' unt':Bool),e=.returned (.int .i64 n)∧Hid (-9007199254740992≤n∧n≤9007199254740992∧St (Eq r) P r l any bad unt w l' bad' unt' w'∧(bad'=false→unt'=false→∃z:Nat,UV l z l'∧n=o+unz z))
theorem step110(P:Nat→Prop)(r:Nat)(l:List UInt8)(any bad unt:Bool)(w:World)(o:Int)(h0 : -9007199254740992≤o)(h1:o≤9007199254740992)(hR:RIn P r w l any bad unt):
  Calls Tryz.prog 110 #[.pointer (some ⟨r,0,none⟩),.int .i64 o] w (StepPost P r l any bad unt w o):=by
 have HC:=zH (numOf hR)
 have H7:Hid (∀z:Nat,z < 18446744073709551616→∀w,Calls Tryz.prog 7 #[.int .u64 z] w fun e w'=>∃d:Int,e=.returned (.int .i64 d)∧Hid (d=unz z ∧ -9223372036854775808≤d∧d < 9223372036854775808)∧w=w'):=by
  intro z hz w
  refine (unz7 z (by omega) (by omega) w).mono ?_
  rintro e w' ⟨rfl,rfl⟩
  exact⟨_,rfl,⟨rfl,unz_bound (by omega) (by omega)⟩,rfl⟩
 clear hR
 go_enter Tryz.func110,Tryz.ntmps110
 go_upto_region 2 with first|(go_at_call 109;refine HC.out.mono ?_;rintro e w1 ⟨z,l1,bad1,rfl,h2⟩)|(go_at_call 7;refine (H7.out z h2.out.lt _).mono ?_;rintro e w2 ⟨d,rfl,h3,rfl⟩)
 have f3:=h2.out.st.inn.fz 3
 have c3:=h2.out.st.inn.c3
 obtain⟨hd,hd1,hd2⟩:=h3.out
 have HD:=zH hd
 clear hd h3
 have bad_arm:StepPost P r l any bad unt w o (.returned (.int .i64 0)) (w1.setCell ⟨r,3,none⟩ (.bool true)) :=
  ⟨0,l1,bad1,true,rfl,by omega,by omega,h2.out.st.setUnt true (fun _=>rfl),fun _ h=>by cases h⟩
 have BA:=zH bad_arm
 clear bad_arm
 by_cases g1:18014398509481984 < d
 ·go_wp2_with fail
  go_ret
  exact BA.out
 ·by_cases g2:d < -18014398509481984
  ·go_wp2_with fail
   go_ret
   exact BA.out
  ·have fin:StepPost P r l any bad unt w o (.returned (.int .i64 (o+d))) w1∨9007199254740992 < o+d∨9007199254740992 < -o - d:=by
    by_cases g3:9007199254740992 < o+d∨9007199254740992 < -o - d
    ·exact .inr g3
    ·exact .inl ⟨o+d,l1,bad1,unt,rfl,by omega,by omega,h2.out.st,fun h _=>⟨z,h2.out.fine h,by rw[HD.out]⟩⟩
   have FIN:=zH fin
   clear fin
   by_cases g3:o+d < -o - d
   ·by_cases g4:9007199254740992 < -o - d
    ·go_wp2_with fail
     go_ret
     exact BA.out
    ·go_wp2_with fail
     go_ret
     exact FIN.out.resolve_right (by omega)
   ·by_cases g4:9007199254740992 < o+d
    ·go_wp2_with fail
     go_ret
     exact BA.out
    ·go_wp2_with fail
     go_ret
     exact FIN.out.resolve_right (by omega)
open Go.RowKit
theorem fi_eq(n:Int):floatOfInt .f64 n=Fl.sg (decide (n < 0)) (Fl.rung n.natAbs 0):=by
 show Fl.F.write (.number (decide (n < 0)) n.natAbs 0)=_
 show Fl.F.nearest _ _ _=_
 rw[Fl.nearest_eq]
def vl (n:Int) (p:Nat):Nat:=(floatBits .quo .f64 (floatOfInt .f64 n) (floatOfInt .f64 ((10 ^ p:Nat):Int))).getD 0
theorem fb_quo(x y:Nat):floatBits .quo .f64 x y=Fl.F.div x y:=rfl
theorem sg_false(x:Nat):Fl.sg false x=x:=rfl
theorem ten_fin:∀p:Fin 9,Fl.rung (10 ^ p.val) 0 < Fl.I∧Fl.mg (Fl.rung (10 ^ p.val) 0)≠0:=by decide
theorem vl_eq(n:Int)(p:Nat)(hn:n.natAbs < 2 ^ 60)(hp:p≤8):floatBits .quo .f64 (floatOfInt .f64 n) (floatOfInt .f64 ((10 ^ p:Nat):Int))=some (vl n p):=by
 have h2:∃v,Fl.F.div (floatOfInt .f64 n) (floatOfInt .f64 ((10 ^ p:Nat):Int))=some v:=by
  have hneg:(decide (((10 ^ p:Nat):Int) < 0))=false:=decide_eq_false (Int.not_lt.2 (Int.natCast_nonneg _))
  rw[fi_eq,fi_eq,hneg,Int.natAbs_natCast,sg_false]
  have ht:=ten_fin ⟨p,by omega⟩
  refine⟨_,Fl.div_fin _ (Fl.rung_lt _ _ ?_) ht.1 ht.2⟩
  have:n.natAbs.log2 < 61:=Nat.lt_of_le_of_lt (m:=n.natAbs.log2) (Nat.le_refl _) (by
   by_cases h0:n.natAbs=0
   ·rw[h0];decide
   ·exact Nat.lt_of_lt_of_le ((Nat.log2_lt h0).2 hn) (by decide))
  omega
 obtain⟨v,hv⟩:=h2
 unfold vl
 rw[fb_quo,hv]
 exact (congrArg some (Option.getD_some)).symm
theorem vl_run(n:Int)(p:Nat)(hn:n.natAbs < 2 ^ 60)(hp:p≤8)(t:TypeId)(w:World):(binOp .quo t (.float .f64 (floatOfInt .f64 n)) (.float .f64 (floatOfInt .f64 ((10 ^ p:Nat):Int)))).run Tryz.prog w=.ok (.float .f64 (vl n p)) w :=
 run_float_arith w .quo t .f64 _ _ _ (vl_eq n p hn hp)
def ValPost (P:Nat→Prop) (r:Nat) (l:List UInt8) (any bad unt:Bool) (w:World) (n p:Int) (e:Ending) (w':World):Prop :=
 ∃(x:Nat) (unt':Bool),e=.returned (.float .f64 x)∧Hid (St (Eq r) P r l any bad unt w l bad unt' w'∧(unt'=false→0≤p→x=vl n p.toNat))
theorem val111(P:Nat→Prop)(r:Nat)(l:List UInt8)(any bad unt:Bool)(w:World)(n p:Int)(h0 : -9007199254740992≤n)(h1:n≤9007199254740992)(hp0 : -9≤p)(hp:p≤8)(hR:RIn P r w l any bad unt):
  Calls Tryz.prog 111 #[.pointer (some ⟨r,0,none⟩),.int .i64 n,.int .i64 p] w (ValPost P r l any bad unt w n p):=by
 have f3:=hR.fz 3
 have c3:=hR.c3
 have HR:=zH hR
 clear hR
 by_cases hp1:p < 0
 ·have fin:∀b:Bool,(unt=true→b=true)→ValPost P r l any bad unt w n p (.returned (.float .f64 0)) (w.setCell ⟨r,3,none⟩ (.bool b)):=fun b hb =>
   ⟨0,b,rfl,(St.refl HR.out).setUnt b hb,fun _ h=>by omega⟩
  have FIN:=zH fin
  clear fin
  cases unt with
  | true =>
   go_enter Tryz.func111,Tryz.ntmps111
   go_wp2_with fail
   go_ret
   exact FIN.out _ (fun _=>rfl)
  | false =>
   go_enter Tryz.func111,Tryz.ntmps111
   go_wp2_with fail
   go_ret
   exact FIN.out _ (fun h=>by cases h)
 ·obtain⟨q,rfl⟩:∃q:Nat,p=(q:Int):=⟨p.toNat,by omega⟩
  have hq:=vl_run n q (by omega) (by omega)
  have C:=zH (pow183 q (by omega))
  obtain⟨v,hv⟩:∃v,v=vl n q:=⟨_,rfl⟩
  rw[←hv] at hq
  have HV:=zH hv
  clear hv
  obtain⟨t,ht⟩:∃t:Int,t=((10 ^ q:Nat):Int):=⟨_,rfl⟩
  rw[←ht] at hq
  have C':Hid (∀w,Calls Tryz.prog 183 #[.int .i64 q] w fun e w'=>e=.returned (.int .i64 t)∧w=w'):=by
   intro w
   rw[ht]
   exact C.out w
  clear ht C
  go_enter Tryz.func111,Tryz.ntmps111
  go_wp2_with (go_at_call 183;refine (C'.out _).mono ?_;rintro e w1 ⟨rfl,rfl⟩)
  go_ret
  exact⟨v,unt,rfl,St.refl HR.out,fun _ _=>HV.out⟩
end Go.Proofs.YtnjjgbcmjnfijaaGreatDoor
