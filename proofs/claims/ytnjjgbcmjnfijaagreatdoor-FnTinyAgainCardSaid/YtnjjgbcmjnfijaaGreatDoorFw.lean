/- A whole number over a power of ten, times that power, rounded, is the number. Plain Lean, no program in sight. No condition. -/
import Derived.Test.YtnjjgbcmjnfijaaGreatDoorFv
import Derived.Test.YtnjjgbcmjnfijaaGreatDoorG5
namespace Go.Proofs.YtnjjgbcmjnfijaaGreatDoor
open Go.RowKit Ieee
namespace Fl
def rnd (b:Nat):Nat :=
 if b / 4503599627370496 < 1023 then (if b / 4503599627370496=1022 then 4607182418800017408 else 0)
 else if b / 4503599627370496 < 1075 then (b+2251799813685248 / 2 ^ (b / 4503599627370496 - 1023)) - (b+2251799813685248 / 2 ^ (b / 4503599627370496 - 1023)) % 2 ^ (52 - (b / 4503599627370496 - 1023))
 else b
theorem V_one:V 4607182418800017408=2 ^ tt:=by
 have htt:=tt_eq
 obtain⟨k,hk⟩:∃k:Nat,k=1022:=⟨_,rfl⟩
 have:=V_norm k 4503599627370496 (by omega) (by omega)
 rw[show k*4503599627370496+4503599627370496=4607182418800017408 by omega] at this
 rw[this,show tt=52+k by omega,Nat.pow_add]
theorem rnd_back(b n:Nat)(hn0:n≠0)(hn:n < 35184372088832)(h1:64*V b≤64*(n*2 ^ tt)+2 ^ tt)(h2:64*(n*2 ^ tt)≤64*V b+2 ^ tt):
  V (rnd b)=n*2 ^ tt∧rnd b < I:=by
 have hT:=Nat.two_pow_pos tt
 have htt:=tt_eq
 obtain⟨t3,ht3⟩:∃t3,t3+1=tt:=⟨tt - 1,by omega⟩
 have hT2:(2:Nat) ^ tt=2 ^ t3*2:=by rw[←Nat.pow_succ,←ht3]
 have hV0:2 ^ t3≤V b:=by
  have:=T_ge n hn0
  generalize n*2 ^ tt=C at *
  rw[hT2] at *
  generalize (2:Nat) ^ t3=t at *
  omega
 have hV1:V b < 2 ^ (46+tt):=by
  have k:n*2 ^ tt < 2 ^ (45+tt):=T_mul n 45 hn
  have k2:(2:Nat) ^ (46+tt)=2 ^ (45+tt)*2:=by rw[←Nat.pow_succ];congr 1;omega
  have k3:(2:Nat) ^ tt≤2 ^ (45+tt):=Nat.pow_le_pow_right (by decide) (by omega)
  rw[k2]
  generalize n*2 ^ tt=C at *
  generalize (2:Nat) ^ (45+tt)=t at *
  generalize (2:Nat) ^ tt=T at *
  omega
 obtain⟨e,p1,p2,p3,p4,p5,p6,p7,p8,p9⟩:=norm_of t3 _ (by omega) hV0 hV1
 unfold rnd
 rw[p8]
 by_cases he:e+1 < 1023
 ·rw[if_pos he,if_pos (by omega),V_one]
  have he2:e=1021:=by omega
  have hlt:V b < 2 ^ tt:=by
   rw[p7,show tt=53+e by omega,Nat.pow_add,show (2:Nat) ^ 53=9007199254740992 by decide]
   exact Nat.mul_lt_mul_of_pos_right p6 (Nat.two_pow_pos _)
  have hn1:n=1:=by
   rcases Nat.lt_or_ge n 2 with h|h
   ·omega
   ·exfalso
    have:2*2 ^ tt≤n*2 ^ tt:=Nat.mul_le_mul_right _ h
    generalize n*2 ^ tt=C at *
    generalize (2:Nat) ^ tt=T at *
    omega
  subst hn1
  exact⟨by rw[Nat.one_mul],by unfold I;omega⟩
 ·rw[if_neg he,if_pos (by omega)]
  obtain⟨i,hi⟩:∃i,e=1022+i:=⟨e - 1022,by omega⟩
  have hi2:e+1 - 1023=i:=by omega
  have hi3:i≤46:=by omega
  rw[hi2]
  obtain⟨k,hk⟩:∃k,k+1+i=52:=⟨51 - i,by omega⟩
  have hhalf:2251799813685248 / 2 ^ i=2 ^ k:=by
   rw[show (2251799813685248:Nat)=2 ^ 51 by decide,show 51=k+i by omega,Nat.pow_add]
   exact Nat.mul_div_cancel _ (Nat.two_pow_pos _)
  have hu:52 - i=k+1:=by omega
  rw[hhalf,hu]
  have hT3:(2:Nat) ^ tt=2 ^ (k+1)*2 ^ e:=by
   have:tt=k+1+e:=by omega
   rw[this,Nat.pow_add]
  rw[p7,hT3] at h1 h2
  have g1:64*mg b≤64*(n*2 ^ (k+1))+2 ^ (k+1):=by
   refine Nat.le_of_mul_le_mul_right (c:=2 ^ e) ?_ (Nat.two_pow_pos e)
   rw[Nat.add_mul,Nat.mul_assoc,Nat.mul_assoc 64,Nat.mul_assoc n]
   exact h1
  have g2:64*(n*2 ^ (k+1))≤64*mg b+2 ^ (k+1):=by
   refine Nat.le_of_mul_le_mul_right (c:=2 ^ e) ?_ (Nat.two_pow_pos e)
   rw[Nat.add_mul,Nat.mul_assoc,Nat.mul_assoc 64 (mg b),Nat.mul_assoc n]
   exact h2
  have hb2:b=e*4503599627370496+mg b:=by
   have:=Nat.div_add_mod b 4503599627370496
   omega
  have hu2:(2:Nat) ^ (k+1)=2 ^ k*2:=rfl
  have hq:(4503599627370496:Nat)=2 ^ (k+1)*2 ^ i:=by rw[←Nat.pow_add,hk]
  have hk64:64≤2 ^ (k+1)*2∨k < 5:=by
   rcases Nat.lt_or_ge k 5 with h|h
   ·exact .inr h
   ·left
    have:(2:Nat) ^ 5≤2 ^ k:=Nat.pow_le_pow_right (by decide) h
    omega
  have hk5:5≤k:=by omega
  have hu64:64≤2 ^ (k+1):=(Nat.pow_le_pow_right (by decide) (by omega):(2:Nat) ^ 6≤2 ^ (k+1))
  obtain⟨u,hud⟩:∃u,u=2 ^ (k+1):=⟨_,rfl⟩
  obtain⟨c,hcd⟩:∃c,c=2 ^ i:=⟨_,rfl⟩
  obtain⟨hf,hhf⟩:∃hf,hf=2 ^ k:=⟨_,rfl⟩
  rw[←hud] at g1 g2 hq hu2 hu64 ⊢
  rw[←hhf] at hu2 ⊢
  rw[←hcd] at hq
  have hupos:0 < u:=by omega
  have hmod:(b+hf) % u=(mg b+hf) % u:=by
   have:b+hf=mg b+hf+u*(e*c):=by
    have:u*(e*c)=e*4503599627370496:=by rw[hq,Nat.mul_left_comm]
    omega
   rw[this,Nat.add_mul_mod_self_left]
  have hdiv:(mg b+hf) / u=n:=by
   refine (Nat.div_eq_iff hupos).2 ⟨?_,?_⟩
   ·generalize n*u=x at *
    omega
   ·generalize n*u=x at *
    omega
  have hdm:=Nat.div_add_mod (mg b+hf) u
  rw[hdiv] at hdm
  have hres:b+hf - (b+hf) % u=e*4503599627370496+n*u:=by
   rw[hmod,Nat.mul_comm n u]
   omega
  rw[hres]
  have hcu:u*c=4503599627370496:=hq.symm
  have hlo:4503599627370496≤n*u:=by
   rcases Nat.lt_or_ge n c with h|h
   ·exfalso
    have:(n+1)*u≤c*u:=Nat.mul_le_mul_right _ h
    rw[Nat.mul_comm c u,hcu,Nat.add_mul,Nat.one_mul] at this
    generalize n*u=x at *
    omega
   ·rw[←hcu,Nat.mul_comm u c];exact Nat.mul_le_mul_right _ h
  have hhi:n*u≤9007199254740992:=by
   rcases Nat.lt_or_ge (2*c) n with h|h
   ·exfalso
    have:(2*c+1)*u≤n*u:=Nat.mul_le_mul_right _ h
    have e2:(2*c+1)*u=2*(u*c)+u:=by rw[Nat.add_mul,Nat.one_mul,Nat.mul_assoc,Nat.mul_comm c u]
    rw[e2,hcu] at this
    generalize n*u=x at *
    omega
   ·have:=Nat.mul_le_mul_right u h
    have e2:2*c*u=2*(u*c):=by rw[Nat.mul_assoc,Nat.mul_comm c u]
    rw[e2,hcu] at this
    omega
  refine⟨?_,?_⟩
  ·rw[V_norm e (n*u) hlo hhi,hT3,←hud,Nat.mul_assoc]
  ·unfold I
   have:e≤1068:=by omega
   have:=Nat.mul_le_mul_right 4503599627370496 this
   omega
end Fl
theorem to_int(s:Bool)(r n:Nat)(hr:r < Fl.I)(hv:Fl.V r=n*2 ^ Fl.tt)(hn:n < 4611686018427387904):floatToIntVal .f64 (Fl.sg s r) .i64=some (if s then -(n:Int) else n):=by
 have hd:FloatKind.f64.decode (Fl.sg s r)=.number s (Fl.mg r) (Fl.pl r):=Fl.read_fin s hr
 have hcut:Toward.zero.cut s (Fl.mg r <<< (Fl.pl r).toNat) (-(Fl.pl r)).toNat=n:=by
  have hge:=Fl.pl_ge r
  have htt:=Fl.tt_eq
  unfold Fl.V at hv
  unfold Toward.cut
  simp only[Bool.toNat_false,Nat.add_zero,Nat.shiftLeft_eq]
  rcases Int.lt_or_le (Fl.pl r) 0 with h|h
  ·obtain⟨k,hk⟩:∃k:Nat,Fl.pl r = -(k:Int):=⟨(-(Fl.pl r)).toNat,by omega⟩
   rw[hk] at hv ⊢
   have e1:(-(k:Int)).toNat=0:=by omega
   have e2:(- -(k:Int)).toNat=k:=by omega
   have e3:(-(k:Int)+1074).toNat=1074 - k:=by omega
   have hk2:k≤1074:=by omega
   rw[e3,show Fl.tt=k+(1074 - k) by omega,Nat.pow_add,←Nat.mul_assoc] at hv
   have hm:=Nat.eq_of_mul_eq_mul_right (Nat.two_pow_pos _) hv
   rw[e1,e2,Nat.pow_zero,Nat.mul_one,hm]
   by_cases h0:n=0
   ·subst h0;simp
   ·have hl:k≤(n*2 ^ k).log2:=Fl.log2_ge (Nat.le_mul_of_pos_left _ (Nat.pos_of_ne_zero h0))
    rw[Nat.min_eq_left (by omega),Nat.one_mul]
    exact Nat.mul_div_cancel _ (Nat.two_pow_pos _)
  ·obtain⟨k,hk⟩:∃k:Nat,Fl.pl r=(k:Int):=⟨(Fl.pl r).toNat,by omega⟩
   rw[hk] at hv ⊢
   have e1:((k:Int)).toNat=k:=by omega
   have e2:(-(k:Int)).toNat=0:=by omega
   have e3:((k:Int)+1074).toNat=k+Fl.tt:=by omega
   rw[e3,Nat.pow_add,←Nat.mul_assoc] at hv
   have hm:=Nat.eq_of_mul_eq_mul_right (Nat.two_pow_pos _) hv
   rw[e1,e2,hm]
   simp
 have ht:(FloatKind.f64.decode (Fl.sg s r)).toInt .zero=some (if s then -(n:Int) else n):=by
  rw[hd]
  unfold Datum.toInt Datum.integral
  simp only[hcut]
  cases s
  ·show some (((n <<< 0:Nat)):Int)=_
   simp
  ·show some (-((n <<< 0:Nat):Int))=_
   simp
 unfold floatToIntVal
 rw[ht]
 simp only
 rw[if_pos]
 have e1:IntKind.i64.min = -9223372036854775808:=by decide
 have e2:IntKind.i64.max=9223372036854775807:=by decide
 rw[e1,e2]
 cases s<;>simp<;>omega
theorem ten_lt(p:Nat)(hp:p≤7):10 ^ p≠0∧10 ^ p < 16777216:=by
 have:=Nat.pow_le_pow_right (n:=10) (by decide) hp
 exact⟨Nat.ne_of_gt (Nat.pow_pos (by decide)),Nat.lt_of_le_of_lt this (by decide)⟩
theorem fi_pos(n:Nat):floatOfInt .f64 (n:Int)=Fl.rung n 0:=by
 have hneg:(decide ((n:Int) < 0))=false:=decide_eq_false (Int.not_lt.2 (Int.natCast_nonneg _))
 rw[fi_eq,hneg,Int.natAbs_natCast,sg_false]
def vlR (n:Int) (p:Nat):Nat:=if n=0 then 0 else Fl.quoR n.natAbs (10 ^ p)
theorem vl_val(n:Int)(p:Nat)(hn:n.natAbs < 9007199254740992)(hp:p≤7):vl n p=Fl.sg (decide (n < 0)) (vlR n p):=by
 have h:=vl_eq n p (by omega) (by omega)
 rw[fb_quo,fi_pos,fi_eq] at h
 have ht:=ten_fin ⟨p,by omega⟩
 have hl:Fl.rung n.natAbs 0 < Fl.I:=by
  by_cases h0:n.natAbs=0
  ·rw[h0];decide
  ·exact (Fl.rung_whole _ h0 hn).1
 rw[Fl.div_fin _ hl ht.1 ht.2] at h
 rw[←Option.some.inj h]
 congr 1
 unfold vlR
 split
 ·next h0 =>
  subst h0
  have e:Fl.mg (Fl.rung (Int.natAbs 0) 0)=0:=by decide
  rw[e]
  unfold Fl.quoM
  simp[Fl.rung]
 ·rfl
theorem vlR_lt(n:Int)(p:Nat)(hn:n.natAbs < 9007199254740992)(hp:p≤7):vlR n p < Fl.I:=by
 unfold vlR
 split
 ·decide
 ·exact (Fl.quo_near n.natAbs (10 ^ p) (by omega) hn (ten_lt p hp).1 (ten_lt p hp).2).1
theorem vl_back(n:Int)(p:Nat)(hn:n.natAbs < 35184372088832)(hp:p≤7):
  ∃b:Nat,b < Fl.I∧floatBits .mul .f64 (vl n p) (floatOfInt .f64 ((10 ^ p:Nat):Int))=some (Fl.sg (decide (n < 0)) b)∧floatToIntVal .f64 (Fl.sg (decide (n < 0)) (Fl.rnd b)) .i64=some n:=by
 have ht:=ten_lt p hp
 have hb1:=(Fl.rung_whole (10 ^ p) ht.1 (by omega)).1
 have hx:=vlR_lt n p (by omega) hp
 have hm:=Fl.mul_fin (decide (n < 0)) false hx hb1
 rw[sg_false,Bool.xor_false,←vl_val n p (by omega) hp] at hm
 refine⟨_,?_,by rw[fi_pos];exact hm,?_⟩
 ·by_cases h0:n=0
  ·subst h0
   have e:Fl.mg (vlR 0 p)=0:=by unfold vlR;rw[if_pos rfl];decide
   rw[e,Nat.zero_mul]
   simp[Fl.rung,Fl.I]
  ·have:=(Fl.back_near n.natAbs (10 ^ p) (by omega) hn ht.1 ht.2).1
   unfold Fl.backR at this
   unfold vlR
   rw[if_neg h0]
   exact this
 ·by_cases h0:n=0
  ·subst h0
   have e:Fl.mg (vlR 0 p)=0:=by unfold vlR;rw[if_pos rfl];decide
   rw[e,Nat.zero_mul]
   have e2:∀x,Fl.rung 0 x=0:=fun x=>by simp[Fl.rung]
   rw[e2]
   decide
  ·obtain⟨k1,k2,k3⟩:=Fl.back_near n.natAbs (10 ^ p) (by omega) hn ht.1 ht.2
   obtain⟨r1,r2⟩:=Fl.rnd_back _ n.natAbs (by omega) hn k2 k3
   have e:Fl.rung (Fl.mg (vlR n p)*Fl.mg (Fl.rung (10 ^ p) 0)) (Fl.pl (vlR n p)+Fl.pl (Fl.rung (10 ^ p) 0))=Fl.backR n.natAbs (10 ^ p):=by
    unfold vlR Fl.backR
    rw[if_neg h0]
   rw[e,to_int _ _ n.natAbs r2 r1 (by omega)]
   congr 1
   by_cases hs:n < 0
   ·simp[hs];omega
   ·simp[hs];omega
theorem eqF_refl(n:Int)(p:Nat)(hn:n.natAbs < 9007199254740992)(hp:p≤7):eqF (vl n p) (vl n p)=true:=by
 rw[vl_val n p hn hp]
 have hx:=vlR_lt n p hn hp
 unfold eqF
 show (Fl.F.order _ _ == some .eq)=true
 unfold Format.order
 rw[Fl.read_fin _ hx]
 show (some (compare _ _) == some Ordering.eq)=true
 simp[compare,compareOfLessAndEq]
theorem small_of(n:Int)(p:Nat)(hn:n.natAbs < 9007199254740992)(hp:p≤7)(h:Fl.V (vlR n p)≤1048576*2 ^ Fl.tt):n.natAbs < 35184372088832:=by
 by_cases h0:n=0
 ·subst h0;decide
 ·have ht:=ten_lt p hp
  unfold vlR at h
  rw[if_neg h0] at h
  obtain⟨_,_,k⟩:=Fl.quo_near n.natAbs (10 ^ p) (by omega) hn ht.1 ht.2
  have h2:Fl.V (Fl.quoR n.natAbs (10 ^ p))*10 ^ p≤1048576*2 ^ Fl.tt*16777216:=Nat.mul_le_mul h (Nat.le_of_lt ht.2)
  generalize Fl.V (Fl.quoR n.natAbs (10 ^ p))*10 ^ p=A at *
  rw[Nat.mul_right_comm] at h2
  have hT:=Nat.two_pow_pos Fl.tt
  rcases Nat.lt_or_ge n.natAbs 35184372088832 with h3|h3
  ·exact h3
  ·exfalso
   have h4:=Nat.mul_le_mul_right (2 ^ Fl.tt) h3
   generalize n.natAbs*2 ^ Fl.tt=C at *
   generalize (2:Nat) ^ Fl.tt=T at *
   omega
theorem order_V{x y:Nat}(hx:x < Fl.I)(hy:y < Fl.I):Fl.F.order (Fl.sg false x) (Fl.sg false y)=some (compare (Fl.V x:Int) (Fl.V y:Int)):=by
 unfold Format.order
 rw[Fl.read_fin false hx,Fl.read_fin false hy]
 show some (compare ((Fl.mg x <<< _:Nat):Int) ((Fl.mg y <<< _:Nat):Int))=_
 congr 1
 rw[Nat.shiftLeft_eq,Nat.shiftLeft_eq]
 obtain⟨b,hb⟩:∃b:Int,b=min (Fl.pl x) (Fl.pl y):=⟨_,rfl⟩
 have gx:=Fl.pl_ge x
 have gy:=Fl.pl_ge y
 rw[←hb]
 obtain⟨k,hk⟩:∃k:Nat,b+1074=(k:Int):=⟨(b+1074).toNat,by omega⟩
 have vx:Fl.V x=Fl.mg x*2 ^ (Fl.pl x - b).toNat*2 ^ k:=by
  unfold Fl.V
  rw[Nat.mul_assoc,←Nat.pow_add]
  congr 2
  omega
 have vy:Fl.V y=Fl.mg y*2 ^ (Fl.pl y - b).toNat*2 ^ k:=by
  unfold Fl.V
  rw[Nat.mul_assoc,←Nat.pow_add]
  congr 2
  omega
 rw[vx,vy]
 generalize Fl.mg x*2 ^ (Fl.pl x - b).toNat=a
 generalize Fl.mg y*2 ^ (Fl.pl y - b).toNat=c
 have ht:=Nat.two_pow_pos k
 generalize 2 ^ k=t at *
 simp only[compare,compareOfLessAndEq]
 have h1:((a:Int) < (c:Int)) ↔ (((a*t:Nat):Int) < ((c*t:Nat):Int)):=by
  rw[Int.ofNat_lt,Int.ofNat_lt,Nat.mul_lt_mul_right ht]
 have h2:((a:Int)=(c:Int)) ↔ (((a*t:Nat):Int)=((c*t:Nat):Int)):=by
  rw[Int.ofNat_inj,Int.ofNat_inj]
  exact⟨fun h=>by rw[h],fun h=>Nat.eq_of_mul_eq_mul_right ht h⟩
 simp only[h1,h2]
end Go.Proofs.YtnjjgbcmjnfijaaGreatDoor
