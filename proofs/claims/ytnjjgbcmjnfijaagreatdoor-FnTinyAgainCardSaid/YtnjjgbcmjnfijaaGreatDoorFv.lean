/- What a float's rung stands for, and how near the nearest is. Plain Lean, no program in sight. No condition. -/
import Ieee.Arith
namespace Go.Proofs.YtnjjgbcmjnfijaaGreatDoor.Fl
open Ieee
abbrev F:=Ieee.double
def S:Nat:=9223372036854775808
def I:Nat:=9218868437227405312
theorem bin:F.binade=4503599627370496:=by decide
theorem inf:F.infRung=I:=by decide
theorem sw:F.signWeight=S:=by decide
theorem lp:F.leastPlace = -1074:=by decide
theorem fb:F.fractionBits=52:=rfl
theorem wd(s:Bool)(r:Nat):F.word s r=if s then S+r else r:=by unfold Format.word;rw[sw]
def sg (s:Bool) (r:Nat):Nat:=if s then S+r else r
def mg (b:Nat):Nat:=if b < 4503599627370496 then b else 4503599627370496+b % 4503599627370496
def pl (b:Nat):Int:=if b < 4503599627370496 then -1074 else -1074+(b / 4503599627370496 - 1:Nat)
theorem read_fin{b:Nat}(s:Bool)(h:b < I):F.read (sg s b)=.number s (mg b) (pl b):=by
 have h':b < S:=by unfold I at h;unfold S;omega
 have h1:sg s b / F.signWeight % 2=if s then 1 else 0:=by
  rw[sw];unfold sg S at *;cases s<;>simp<;>omega
 have h2:sg s b % F.signWeight=b:=by rw[sw];unfold sg S at *;cases s<;>simp<;>omega
 unfold Format.read
 simp only[h1,h2,bin,inf,lp]
 unfold mg pl
 by_cases c:b < 4503599627370496
 ·simp only[c,if_true];cases s<;>rfl
 ·simp only[c,if_false,h,if_true];cases s<;>rfl
theorem read_inf(s:Bool):F.read (sg s I)=.infinity s:=by cases s<;>decide
theorem mg_lt(b:Nat):mg b < 2 ^ 53:=by unfold mg;split<;>omega
theorem pl_ge(b:Nat): -1074≤pl b:=by unfold pl;split<;>omega
theorem pl_le(b:Nat):pl b ≤ -1074+(b / 4503599627370496:Nat):=by unfold pl;split<;>omega
def rung (mag:Nat) (place:Int):Nat :=
 if mag=0 then 0 else
 let last:=max (place+mag.log2 - 52) (-1074)
 let kept:=Toward.even.cut false (mag <<< (place - last).toNat) (last - place).toNat
 min ((last+1074).toNat*4503599627370496+kept) I
theorem cut_even(n d:Nat):Toward.even.cut true n d=Toward.even.cut false n d:=rfl
theorem nearest_eq(s:Bool)(mag:Nat)(place:Int):F.nearest s mag place=sg s (rung mag place):=by
 unfold Format.nearest rung
 by_cases h:mag=0
 ·subst h;simp only[if_true,wd];rfl
 ·simp only[if_neg h,wd,lp,bin,inf]
  cases s
  ·rfl
  ·rw[cut_even];rfl
theorem cut_le(n drop b:Nat)(h:n < 2 ^ (b+drop)):Toward.even.cut false n drop≤2 ^ b:=by
 unfold Toward.cut
 simp only
 have hg:∀(x:Bool),x.toNat≤1:=fun x=>by cases x<;>decide
 by_cases hd:drop≤n.log2+2
 ·rw[Nat.min_eq_left hd,Nat.one_shiftLeft]
  have:n / 2 ^ drop < 2 ^ b:=by
   rw[Nat.div_lt_iff_lt_mul (Nat.two_pow_pos _),←Nat.pow_add];exact h
  refine Nat.le_trans (Nat.add_le_add_left (hg _) _) this
 ·rw[Nat.min_eq_right (by omega),Nat.one_shiftLeft]
  have hn:n < 2 ^ (n.log2+2):=by
   by_cases h0:n=0
   ·subst h0;exact Nat.two_pow_pos _
   ·exact Nat.lt_of_lt_of_le (Nat.lt_log2_self (n:=n)) (Nat.pow_le_pow_right (by decide) (by omega))
  rw[Nat.div_eq_of_lt hn]
  refine Nat.le_trans (Nat.add_le_add_left (hg _) _) ?_
  have:=Nat.two_pow_pos b
  omega
theorem rung_lt(mag:Nat)(place:Int)(h:place+mag.log2≤1000):rung mag place < I:=by
 unfold rung
 by_cases h0:mag=0
 ·simp[h0,I]
 simp only[if_neg h0]
 generalize hl:max (place+mag.log2 - 52) (-1074)=last
 have hlast:last≤948:=by omega
 have hk:Toward.even.cut false (mag <<< (place - last).toNat) (last - place).toNat≤2 ^ 53:=by
  apply cut_le
  rw[Nat.shiftLeft_eq]
  have:=Nat.lt_log2_self (n:=mag)
  calc mag*2 ^ (place - last).toNat < 2 ^ (mag.log2+1)*2 ^ (place - last).toNat:=Nat.mul_lt_mul_of_pos_right this (Nat.two_pow_pos _)
   _=2 ^ (mag.log2+1+(place - last).toNat):=by rw[←Nat.pow_add]
   _≤_:=Nat.pow_le_pow_right (by decide) (by omega)
 have:(last+1074).toNat≤2022:=by omega
 generalize Toward.even.cut false (mag <<< (place - last).toNat) (last - place).toNat=k at *
 unfold I
 have:(last+1074).toNat*4503599627370496≤2022*4503599627370496:=Nat.mul_le_mul_right _ this
 omega
theorem rung_le(mag:Nat)(place:Int):rung mag place≤I:=by
 unfold rung;split
 ·unfold I;omega
 ·exact Nat.min_le_right _ _
theorem mul_fin{x y:Nat}(s t:Bool)(hx:x < I)(hy:y < I):F.mul (sg s x) (sg t y)=some (sg (s ^^ t) (rung (mg x*mg y) (pl x+pl y))):=by
 unfold Format.mul
 rw[read_fin s hx,read_fin t hy]
 simp only[Datum.product,Option.map_some,Format.write,nearest_eq]
def quoM (m n:Nat):Nat:=2*((m <<< (54+n.log2 - m.log2)) / n)+((m <<< (54+n.log2 - m.log2)) % n != 0).toNat
theorem div_fin{x y:Nat}(s:Bool)(hx:x < I)(hy:y < I)(hn:mg y≠0):F.div (sg s x) y =
  some (sg s (rung (quoM (mg x) (mg y)) (pl x - pl y - (54+(mg y).log2 - (mg x).log2:Nat) - 1))):=by
 unfold Format.div
 have:=read_fin false hy
 simp only[sg,Bool.false_eq_true,if_false] at this
 rw[read_fin s hx,this]
 simp only[Datum.quotient,if_neg hn,Option.map_some,Format.write,nearest_eq,fb,Bool.xor_false]
 rfl
theorem cmp_neg(a b:Int):compare (-a) (-b)=compare b a:=by
 simp only[compare,compareOfLessAndEq]
 by_cases h:a < b
 ·have h1:¬-a < -b:=by omega
  have h2:¬-a = -b:=by omega
  have h3:¬b < a:=by omega
  have h4:¬b=a:=by omega
  simp[h1,h2,h3,h4]
 ·by_cases e:a=b
  ·subst e;simp
  ·have h1 : -a < -b:=by omega
   have h3:b < a:=by omega
   simp[h1,h3]
theorem signed_true(m u:Nat):signed true m u = -(signed false m u):=rfl
theorem signed_nonneg(m u:Nat):0≤signed false m u:=by
 show (0:Int)≤((m <<< u:Nat):Int)
 exact Int.natCast_nonneg _
theorem order_pos{x y:Nat}(hx:x < I)(hy:y < I):∃a b:Int,0≤a∧0≤b∧F.order (sg false x) (sg false y)=some (compare a b) ∧
  F.order (sg true x) (sg true y)=some (compare b a)∧F.order (sg false x) (sg true y)=some (compare a (-b))∧F.order (sg true x) (sg false y)=some (compare (-a) b):=by
 unfold Format.order
 rw[read_fin true hx,read_fin true hy,read_fin false hx,read_fin false hy]
 simp only[Datum.order,signed_true]
 exact⟨_,_,signed_nonneg _ _,signed_nonneg _ _,rfl,by rw[cmp_neg],rfl,rfl⟩
theorem order_eq_sg{x y:Nat}(hx:x≤I)(hy:y≤I):(F.order (sg true x) (sg true y) == some .eq)=(F.order (sg false x) (sg false y) == some .eq):=by
 by_cases h1:x=I
 ·subst h1
  by_cases h2:y=I
  ·subst h2;decide
  ·have hy':y < I:=by omega
   unfold Format.order
   rw[read_inf,read_inf,read_fin true hy',read_fin false hy']
   rfl
 ·have hx':x < I:=by omega
  by_cases h2:y=I
  ·subst h2
   unfold Format.order
   rw[read_inf,read_inf,read_fin true hx',read_fin false hx']
   rfl
  ·obtain⟨a,b,_,_,e1,e2,_⟩:=order_pos hx' (show y < I by omega)
   rw[e1,e2]
   simp only[compare,compareOfLessAndEq]
   by_cases h:a < b
   ·have h3:¬b < a:=by omega
    have h4:¬b=a:=by omega
    simp[h,h3,h4]
   ·by_cases e:a=b
    ·subst e;simp
    ·have h3:b < a:=by omega
     simp[h,h3,e]
theorem gt_sg{x y:Nat}(hx:x < I)(hy:y < I):
  ((F.order (sg true x) (sg false y) == some .gt) || (F.order (sg true x) (sg true y) == some .lt)) =
  ((F.order (sg false x) (sg false y) == some .gt) || (F.order (sg false x) (sg true y) == some .lt)):=by
 obtain⟨a,b,ha,hb,e1,e2,e3,e4⟩:=order_pos hx hy
 rw[e1,e2,e3,e4]
 simp only[compare,compareOfLessAndEq]
 by_cases h:a < b
 ·have h3:¬b < a:=by omega
  have h4:¬b=a:=by omega
  have h5 : -a < b:=by omega
  have h6:¬a < -b:=by omega
  have h7:¬a = -b:=by omega
  simp[h,h3,h4,h5,h6,h7]
 ·by_cases e:a=b
  ·subst e
   have h6:¬a < -a:=by omega
   by_cases h5 : -a < a
   ·have h7:¬a = -a:=by omega
    simp[h5,h6,h7]
   ·have h8:a=0:=by omega
    subst h8;decide
  ·have h3:b < a:=by omega
   have h5 : -a < b:=by omega
   have h6:¬a < -b:=by omega
   have h7:¬a = -b:=by omega
   simp[h,h3,e,h5,h6,h7]
theorem log2_mul(m k:Nat)(h:m≠0):(m*2 ^ k).log2=m.log2+k:=by
 refine (Nat.log2_eq_iff (by exact Nat.mul_ne_zero h (Nat.ne_of_gt (Nat.two_pow_pos _)))).2 ⟨?_,?_⟩
 ·rw[Nat.pow_add];exact Nat.mul_le_mul_right _ (Nat.log2_self_le h)
 ·rw[show m.log2+k+1=m.log2+1+k by omega,Nat.pow_add]
  exact Nat.mul_lt_mul_of_pos_right Nat.lt_log2_self (Nat.two_pow_pos _)
theorem rung_one{b:Nat}(h:b < I):rung (mg b*4503599627370496) (pl b + -52)=b:=by
 by_cases h0:mg b=0
 ·have:b=0:=by unfold mg at h0;split at h0<;>omega
  subst this;rfl
 have e52:(4503599627370496:Nat)=2 ^ 52:=rfl
 have hL:(mg b*4503599627370496).log2=(mg b).log2+52:=by rw[e52];exact log2_mul _ _ h0
 unfold rung
 rw[if_neg (by omega),hL]
 have hlast:max (pl b + -52+((mg b).log2+52:Nat) - 52) (-1074)=pl b:=by
  by_cases c:b < 4503599627370496
  ·have e1:mg b=b:=by unfold mg;rw[if_pos c]
   have e2:pl b = -1074:=by unfold pl;rw[if_pos c]
   rw[e1,e2]
   have:b.log2 < 52:=(Nat.log2_lt (by omega)).2 (by omega)
   omega
  ·have e1:4503599627370496≤mg b:=by unfold mg;rw[if_neg c];omega
   have:(mg b).log2=52:=(Nat.log2_eq_iff h0).2 ⟨by omega,by have:=mg_lt b;omega⟩
   rw[this]
   have:=pl_ge b
   omega
 simp only[hlast]
 have e3:(pl b + -52 - pl b).toNat=0:=by omega
 have e4:(pl b - (pl b + -52)).toNat=52:=by omega
 rw[e3,e4]
 have hk:Toward.even.cut false ((mg b*4503599627370496) <<< 0) 52=mg b:=by
  have hg:1 <<< min 52 ((mg b*4503599627370496).log2+2)=4503599627370496:=by
   rw[hL,Nat.min_eq_left (by omega)];decide
  unfold Toward.cut
  simp only[Nat.shiftLeft_zero,hg,Nat.mul_div_cancel _ (show 0 < 4503599627370496 by decide),Nat.mul_mod_left]
  simp
 rw[hk]
 unfold mg pl
 by_cases c:b < 4503599627370496
 ·simp only[if_pos c];unfold I;omega
 ·simp only[if_neg c]
  unfold I at *
  omega
theorem mul_minus_one{b:Nat}(h:b < I):F.mul b 13830554455654793216=some (sg true b):=by
 have:=mul_fin (x:=b) (y:=4607182418800017408) false true h (by unfold I;omega)
 have e1:sg true 4607182418800017408=13830554455654793216:=by decide
 have e2:mg 4607182418800017408=4503599627370496:=by decide
 have e3:pl 4607182418800017408 = -52:=by decide
 rw[e1,e2,e3,rung_one h] at this
 exact this
end Go.Proofs.YtnjjgbcmjnfijaaGreatDoor.Fl
namespace Go.Proofs.YtnjjgbcmjnfijaaGreatDoor.Fl
open Ieee
theorem tt_ex:∃t:Nat,t=1074:=⟨_,rfl⟩
noncomputable def tt:Nat:=tt_ex.choose
theorem tt_eq:tt=1074:=tt_ex.choose_spec
def V (b:Nat):Nat:=mg b*2 ^ (pl b+1074).toNat
theorem V_norm(j kept:Nat)(h0:4503599627370496≤kept)(h1:kept≤9007199254740992):V (j*4503599627370496+kept)=kept*2 ^ j:=by
 unfold V mg pl
 by_cases h:kept=9007199254740992
 ·subst h
  have d1:(j*4503599627370496+9007199254740992) / 4503599627370496=j+2:=by omega
  have d2:(j*4503599627370496+9007199254740992) % 4503599627370496=0:=by omega
  rw[if_neg (by omega),if_neg (by omega),d1,d2]
  have:((-1074:Int)+((j+2 - 1:Nat):Int)+1074).toNat=j+1:=by omega
  rw[this,Nat.pow_succ]
  generalize (2:Nat) ^ j=t
  omega
 ·have d1:(j*4503599627370496+kept) / 4503599627370496=j+1:=by omega
  have d2:(j*4503599627370496+kept) % 4503599627370496=kept - 4503599627370496:=by omega
  rw[if_neg (by omega),if_neg (by omega),d1,d2]
  have:((-1074:Int)+((j+1 - 1:Nat):Int)+1074).toNat=j:=by omega
  rw[this,show 4503599627370496+(kept - 4503599627370496)=kept by omega]
theorem cut_near(n drop:Nat)(h:drop≤n.log2+2):2*(Toward.even.cut false n drop*2 ^ drop)≤2*n+2 ^ drop∧2*n≤2*(Toward.even.cut false n drop*2 ^ drop)+2 ^ drop:=by
 unfold Toward.cut
 simp only[Nat.min_eq_left h,Nat.one_shiftLeft]
 generalize hg:2 ^ drop=g
 have hg0:0 < g:=by rw[←hg];exact Nat.two_pow_pos _
 have hm:=Nat.div_add_mod n g
 have hr:=Nat.mod_lt n hg0
 generalize n / g=q at *
 generalize n % g=r at *
 have hq:(q+1)*g=g*q+g:=by rw[Nat.add_mul,Nat.mul_comm q g,Nat.one_mul]
 have hq0:(q+0)*g=g*q:=by rw[Nat.add_zero,Nat.mul_comm]
 by_cases c:g < 2*r
 ·have:(decide (g < 2*r) || (g == 2*r && q % 2 == 1))=true:=by simp[c]
  rw[this]
  simp only[Bool.toNat_true,hq]
  omega
 ·by_cases c2:(g == 2*r && q % 2 == 1)=true
  ·have:(decide (g < 2*r) || (g == 2*r && q % 2 == 1))=true:=by simp[c2]
   have e:g=2*r:=by simp at c2;exact c2.1
   rw[this]
   simp only[Bool.toNat_true,hq]
   omega
  ·have:(decide (g < 2*r) || (g == 2*r && q % 2 == 1))=false:=by
    rw[Bool.eq_false_iff]
    intro h;rw[Bool.or_eq_true] at h
    rcases h with h|h
    ·exact c (by simpa using h)
    ·exact c2 h
   rw[this]
   simp only[Bool.toNat_false,hq0]
   omega
theorem cut_exact(n:Nat):Toward.even.cut false n 0=n:=by
 unfold Toward.cut
 simp[Nat.mod_one]
theorem cut_ge(n drop b:Nat)(hd:drop≤n.log2+2)(h:2 ^ (b+drop)≤n):2 ^ b≤Toward.even.cut false n drop:=by
 unfold Toward.cut
 simp only[Nat.min_eq_left hd,Nat.one_shiftLeft]
 have:2 ^ b≤n / 2 ^ drop:=by
  rw[Nat.le_div_iff_mul_le (Nat.two_pow_pos _),←Nat.pow_add];exact h
 omega
theorem rung_near(mag:Nat)(place:Int)(h0:mag≠0)(hp : -1074≤place)(hlo : -1074≤place+mag.log2 - 52)(hhi:place+mag.log2≤1000):
  rung mag place < I∧9007199254740992*V (rung mag place)≤9007199254740993*(mag*2 ^ (place+1074).toNat)∧9007199254740991*(mag*2 ^ (place+1074).toNat)≤9007199254740992*V (rung mag place) ∧
  (mag.log2≤52→V (rung mag place)=mag*2 ^ (place+1074).toNat):=by
 refine⟨rung_lt mag place hhi,?_⟩
 have hlt:=Nat.lt_log2_self (n:=mag)
 have hge:=Nat.log2_self_le h0
 have e52:(2:Nat) ^ 52=4503599627370496:=by decide
 have e53:(2:Nat) ^ 53=9007199254740992:=by decide
 obtain⟨j,hj⟩:∃j:Nat,place+mag.log2 - 52 = -1074+(j:Int):=⟨(place+mag.log2 - 52+1074).toNat,by omega⟩
 have hlast:max (place+mag.log2 - 52) (-1074) = -1074+(j:Int):=by omega
 obtain⟨kept,hk⟩:∃kept,kept=Toward.even.cut false (mag <<< (place - (-1074+(j:Int))).toNat) ((-1074+(j:Int)) - place).toNat:=⟨_,rfl⟩
 have hr:rung mag place=min (j*4503599627370496+kept) I:=by
  unfold rung
  rw[if_neg h0]
  simp only[hlast,←hk]
  have:((-1074:Int)+(j:Int)+1074).toNat=j:=by omega
  rw[this]
 have hj2:j≤2022:=by omega
 by_cases hs:mag.log2≤52
 ·obtain⟨i,hi⟩:∃i,i+mag.log2=52:=⟨52 - mag.log2,by omega⟩
  have e1:(place - (-1074+(j:Int))).toNat=i:=by omega
  have e2:((-1074+(j:Int)) - place).toNat=0:=by omega
  rw[e1,e2,cut_exact,Nat.shiftLeft_eq] at hk
  have hk0:4503599627370496≤kept:=by
   rw[hk,←e52,←hi,Nat.add_comm,Nat.pow_add]
   exact Nat.mul_le_mul_right _ hge
  have hk1:kept < 9007199254740992:=by
   rw[hk,←e53,show 53=mag.log2+1+i by omega,Nat.pow_add]
   exact Nat.mul_lt_mul_of_pos_right hlt (Nat.two_pow_pos _)
  have hv:V (rung mag place)=mag*2 ^ (place+1074).toNat:=by
   rw[hr,Nat.min_eq_left (by unfold I;omega),V_norm j kept hk0 (by omega),hk,show (place+1074).toNat=i+j by omega,Nat.pow_add,Nat.mul_assoc]
  rw[hv]
  generalize mag*2 ^ (place+1074).toNat=M
  exact⟨by omega,by omega,fun _=>rfl⟩
 ·obtain⟨d,hd⟩:∃d,mag.log2=52+d:=⟨mag.log2 - 52,by omega⟩
  have e1:(place - (-1074+(j:Int))).toNat=0:=by omega
  have e2:((-1074+(j:Int)) - place).toNat=d:=by omega
  rw[e1,e2,Nat.shiftLeft_zero] at hk
  have hdd:d≤mag.log2+2:=by omega
  have hk0:4503599627370496≤kept:=by
   rw[hk,←e52]
   exact cut_ge mag d 52 hdd (by rw[←hd];exact hge)
  have hk1:kept≤9007199254740992:=by
   rw[hk,←e53]
   exact cut_le mag d 53 (by rw[show 53+d=mag.log2+1 by omega];exact hlt)
  have hn:=cut_near mag d hdd
  rw[←hk] at hn
  have hm2:4503599627370496*2 ^ d≤mag:=by
   rw[←e52,←Nat.pow_add,←hd];exact hge
  have hpj:(place+1074).toNat+d=j:=by omega
  rw[hr,Nat.min_eq_left (by unfold I;omega),V_norm j kept hk0 hk1,←hpj,Nat.pow_add]
  generalize 2 ^ (place+1074).toNat=t
  generalize 2 ^ d=g at *
  have f1:kept*(t*g)=(kept*g)*t:=by rw[Nat.mul_assoc,Nat.mul_comm t g]
  rw[f1]
  generalize kept*g=x at *
  refine⟨?_,?_,fun h=>absurd h hs⟩
  ·rw[←Nat.mul_assoc,←Nat.mul_assoc]
   exact Nat.mul_le_mul_right t (by omega)
  ·rw[←Nat.mul_assoc,←Nat.mul_assoc]
   exact Nat.mul_le_mul_right t (by omega)
theorem log2_lt{n k:Nat}(h:n < 2 ^ k)(h0:n≠0):n.log2 < k:=(Nat.log2_lt h0).2 h
theorem rung_whole(n:Nat)(h0:n≠0)(h:n < 9007199254740992):rung n 0 < I∧V (rung n 0)=n*2 ^ tt:=by
 have hl:n.log2 < 53:=log2_lt h h0
 obtain⟨h1,_,_,h4⟩:=rung_near n 0 h0 (by omega) (by omega) (by omega)
 have e:((0:Int)+1074).toNat=tt:=by rw[tt_eq];rfl
 rw[e] at h4
 exact⟨h1,h4 (by omega)⟩
theorem mg_pos{b:Nat}(h:0 < V b):mg b≠0:=by
 intro h2;unfold V at h;rw[h2] at h;omega
theorem V_norm_inv{b:Nat}(h:4503599627370496≤b):V b=(4503599627370496+b % 4503599627370496)*2 ^ (b / 4503599627370496 - 1):=by
 unfold V mg pl
 rw[if_neg (by omega),if_neg (by omega)]
 congr 2
 omega
theorem V_sub{b:Nat}(h:b < 4503599627370496):V b=b:=by
 unfold V mg pl
 rw[if_pos h,if_pos h]
 simp
theorem scale{a b c d:Nat}(t:Nat)(h:a*b≤c*d):a*(b*t)≤c*(d*t):=by
 rw[←Nat.mul_assoc,←Nat.mul_assoc];exact Nat.mul_le_mul_right t h
theorem unscale{a b c d t:Nat}(ht:0 < t)(h:a*(b*t)≤c*(d*t)):a*b≤c*d:=by
 rw[←Nat.mul_assoc,←Nat.mul_assoc] at h;exact Nat.le_of_mul_le_mul_right h ht
theorem pow_eq{a b c d:Nat}(h:a+b=c+d):2 ^ a*2 ^ b=2 ^ c*2 ^ d:=by rw[←Nat.pow_add,←Nat.pow_add,h]
theorem mul4(a b c d:Nat):a*b*(c*d)=a*c*(b*d):=by rw[Nat.mul_assoc,Nat.mul_assoc,Nat.mul_left_comm b]
theorem mul_near{x y:Nat}(gx:0 < V x)(gy:0 < V y)(hp : -1074≤pl x+pl y)(hlo : -1000≤pl x+pl y+(mg x*mg y).log2)(hhi:pl x+pl y+(mg x*mg y).log2≤1000):
  rung (mg x*mg y) (pl x+pl y) < I∧9007199254740992*(V (rung (mg x*mg y) (pl x+pl y))*2 ^ tt)≤9007199254740993*(V x*V y)∧9007199254740991*(V x*V y)≤9007199254740992*(V (rung (mg x*mg y) (pl x+pl y))*2 ^ tt):=by
 obtain⟨h1,h2,h3,_⟩:=rung_near (mg x*mg y) (pl x+pl y) (Nat.mul_ne_zero (mg_pos gx) (mg_pos gy)) hp (by omega) hhi
 refine⟨h1,?_⟩
 have e:V x*V y=mg x*mg y*2 ^ (pl x+pl y+1074).toNat*2 ^ tt:=by
  have htt:=tt_eq
  have hx2:=pl_ge x
  have hy2:=pl_ge y
  have hp:2 ^ (pl x+1074).toNat*2 ^ (pl y+1074).toNat=2 ^ (pl x+pl y+1074).toNat*2 ^ tt:=pow_eq (by omega)
  unfold V
  rw[mul4,hp,Nat.mul_assoc (mg x*mg y)]
 rw[e]
 generalize V (rung (mg x*mg y) (pl x+pl y))=r at *
 generalize mg x*mg y*2 ^ (pl x+pl y+1074).toNat=M at *
 exact⟨scale _ h2,scale _ h3⟩
theorem log2_ge{n k:Nat}(h:2 ^ k≤n):k≤n.log2:=by
 have h0:n≠0:=by have:=Nat.two_pow_pos k;omega
 have:=(Nat.le_log2 h0).2 h
 exact this
theorem quoM_near{m n:Nat}(hm:m≠0)(hn:n≠0)(hm53:m.log2≤52):
  18014398509481984*(quoM m n*n)≤18014398509481985*(2*m*2 ^ (54+n.log2 - m.log2))∧18014398509481983*(2*m*2 ^ (54+n.log2 - m.log2))≤18014398509481984*(quoM m n*n)∧54≤(quoM m n).log2∧(quoM m n).log2≤56∧quoM m n≠0:=by
 have hl1:=Nat.log2_self_le hm
 have hl2:=Nat.lt_log2_self (n:=m)
 have hn1:=Nat.log2_self_le hn
 have hn2:=Nat.lt_log2_self (n:=n)
 unfold quoM
 rw[Nat.shiftLeft_eq]
 obtain⟨s,hs⟩:∃s,s=54+n.log2 - m.log2:=⟨_,rfl⟩
 rw[←hs]
 have e1:2 ^ (54+n.log2)≤m*2 ^ s:=by
  rw[show 54+n.log2=m.log2+s by omega,Nat.pow_add]
  exact Nat.mul_le_mul_right _ hl1
 have e2:m*2 ^ s < 2 ^ (55+n.log2):=by
  rw[show 55+n.log2=(m.log2+1)+s by omega,Nat.pow_add]
  exact Nat.mul_lt_mul_of_pos_right hl2 (Nat.two_pow_pos _)
 have e3:9007199254740992*n≤m*2 ^ s:=by
  refine Nat.le_trans ?_ e1
  rw[show 54+n.log2=53+(n.log2+1) by omega,Nat.pow_add,show (2:Nat) ^ 53=9007199254740992 by decide]
  exact Nat.mul_le_mul_left _ (Nat.le_of_lt hn2)
 have e4:m*2 ^ s < 36028797018963968*n:=by
  refine Nat.lt_of_lt_of_le e2 ?_
  rw[Nat.pow_add,show (2:Nat) ^ 55=36028797018963968 by decide]
  exact Nat.mul_le_mul_left _ hn1
 rw[Nat.mul_assoc 2 m]
 generalize m*2 ^ s=z at *
 have hd:=Nat.div_add_mod z n
 have hr:=Nat.mod_lt z (Nat.pos_of_ne_zero hn)
 have q1:9007199254740992≤z / n:=(Nat.le_div_iff_mul_le (Nat.pos_of_ne_zero hn)).2 e3
 have q2:z / n < 36028797018963968:=(Nat.div_lt_iff_lt_mul (Nat.pos_of_ne_zero hn)).2 e4
 generalize z / n=q at *
 have hst:(z % n != 0).toNat=if z % n=0 then 0 else 1:=by
  by_cases h:z % n=0<;>simp[h]
 rw[hst]
 generalize z % n=r at *
 have hb:(2*q+if r=0 then 0 else 1)*n=2*(n*q)+(if r=0 then 0 else n):=by
  split
  ·rw[Nat.add_zero,Nat.add_zero,Nat.mul_assoc,Nat.mul_comm q]
  ·rw[Nat.add_mul,Nat.one_mul,Nat.mul_assoc,Nat.mul_comm q]
 rw[hb]
 refine⟨?_,?_,?_,?_,?_⟩
 ·split<;>omega
 ·split<;>omega
 ·refine log2_ge ?_
  rw[show (2:Nat) ^ 54=18014398509481984 by decide]
  omega
 ·have:(2*q+if r=0 then 0 else 1).log2 < 57:=log2_lt (by rw[show (2:Nat) ^ 57=144115188075855872 by decide];split<;>omega) (by omega)
  omega
 ·omega
theorem div_near{x y:Nat}(gx:0 < V x)(gy:0 < V y)(lx:(mg x).log2≤52)(hp : -900≤pl x - pl y - (54+(mg y).log2 - (mg x).log2:Nat))(hx2:pl x - pl y - (54+(mg y).log2 - (mg x).log2:Nat)≤900):
  let r:=rung (quoM (mg x) (mg y)) (pl x - pl y - (54+(mg y).log2 - (mg x).log2:Nat) - 1)
  r < I∧4503599627370496*(V r*V y)≤4503599627370497*(V x*2 ^ tt)∧4503599627370495*(V x*2 ^ tt)≤4503599627370496*(V r*V y):=by
 intro r
 have hmx:=mg_pos gx
 have hmy:=mg_pos gy
 obtain⟨q1,q2,q3,q4,q5⟩:=quoM_near hmx hmy lx
 obtain⟨s,hs⟩:∃s,s=54+(mg y).log2 - (mg x).log2:=⟨_,rfl⟩
 have hr:r=rung (quoM (mg x) (mg y)) (pl x - pl y - (s:Int) - 1):=by rw[hs]
 rw[←hs] at q1 q2 hp hx2
 obtain⟨h1,h2,h3,_⟩:=rung_near (quoM (mg x) (mg y)) (pl x - pl y - (s:Int) - 1) q5 (by omega) (by omega) (by omega)
 rw[←hr] at h1 h2 h3
 refine⟨h1,?_⟩
 have hpx:=pl_ge x
 have hpy:=pl_ge y
 obtain⟨t,ht⟩:∃t,t=(pl x+2147 - s).toNat:=⟨_,rfl⟩
 have eB:quoM (mg x) (mg y)*2 ^ (pl x - pl y - (s:Int) - 1+1074).toNat*V y=quoM (mg x) (mg y)*mg y*2 ^ t:=by
  unfold V
  have:(pl x - pl y - (s:Int) - 1+1074).toNat+(pl y+1074).toNat=t:=by omega
  rw[←this,Nat.pow_add]
  generalize 2 ^ (pl x - pl y - (s:Int) - 1+1074).toNat=a
  generalize 2 ^ (pl y+1074).toNat=c
  generalize quoM (mg x) (mg y)=d
  rw[Nat.mul_assoc,Nat.mul_assoc,Nat.mul_left_comm a]
 have htt:=tt_eq
 have eC:V x*2 ^ tt=2*mg x*2 ^ s*2 ^ t:=by
  have hp:2 ^ (pl x+1074).toNat*2 ^ tt=2 ^ 1*2 ^ (s+t):=pow_eq (by omega)
  unfold V
  rw[Nat.mul_assoc,hp,Nat.pow_add,Nat.pow_one,Nat.mul_comm 2 (mg x),Nat.mul_assoc (mg x),Nat.mul_assoc,Nat.mul_assoc]
 rw[eC]
 have k1:9007199254740992*(V r*V y)≤9007199254740993*(quoM (mg x) (mg y)*mg y*2 ^ t):=by
  rw[←eB];exact scale _ h2
 have k2:9007199254740991*(quoM (mg x) (mg y)*mg y*2 ^ t)≤9007199254740992*(V r*V y):=by
  rw[←eB];exact scale _ h3
 have k3:18014398509481984*(quoM (mg x) (mg y)*mg y*2 ^ t)≤18014398509481985*(2*mg x*2 ^ s*2 ^ t):=scale _ q1
 have k4:18014398509481983*(2*mg x*2 ^ s*2 ^ t)≤18014398509481984*(quoM (mg x) (mg y)*mg y*2 ^ t):=scale _ q2
 generalize V r*V y=A at *
 generalize quoM (mg x) (mg y)*mg y*2 ^ t=B at *
 generalize 2*mg x*2 ^ s*2 ^ t=C at *
 exact⟨by omega,by omega⟩
theorem norm_of{b:Nat}(u v:Nat)(h53:53≤u)(h0:2 ^ u≤V b)(h1:V b < 2 ^ v):∃e:Nat,pl b=(e:Int) - 1074∧u < e+53∧e+52 < v∧(mg b).log2=52∧4503599627370496≤mg b∧mg b < 9007199254740992∧V b=mg b*2 ^ e∧b / 4503599627370496=e+1∧mg b=4503599627370496+b % 4503599627370496:=by
 have e52:(2:Nat) ^ 52=4503599627370496:=by decide
 have e53:(2:Nat) ^ 53=9007199254740992:=by decide
 have hb:4503599627370496≤b:=by
  rcases Nat.lt_or_ge b 4503599627370496 with h|h
  ·rw[V_sub h] at h0
   have:(2:Nat) ^ 53≤2 ^ u:=Nat.pow_le_pow_right (by decide) h53
   omega
  ·exact h
 have hv:=V_norm_inv hb
 have hmg:mg b=4503599627370496+b % 4503599627370496:=by unfold mg;rw[if_neg (by omega)]
 have hpl:pl b=((b / 4503599627370496 - 1:Nat):Int) - 1074:=by unfold pl;rw[if_neg (by omega)];omega
 obtain⟨e,he⟩:∃e,e=b / 4503599627370496 - 1:=⟨_,rfl⟩
 rw[←he] at hv hpl
 rw[←hmg] at hv
 have m0:4503599627370496≤mg b:=by omega
 have m1:mg b < 9007199254740992:=by omega
 refine⟨e,hpl,?_,?_,?_,m0,m1,hv,by omega,hmg⟩
 ·have:2 ^ u < 2 ^ (e+53):=by
   refine Nat.lt_of_le_of_lt h0 ?_
   rw[hv,Nat.add_comm,Nat.pow_add,e53]
   exact Nat.mul_lt_mul_of_pos_right m1 (Nat.two_pow_pos _)
  exact (Nat.pow_lt_pow_iff_right (by decide)).1 this
 ·have:2 ^ (e+52) < 2 ^ v:=by
   refine Nat.lt_of_le_of_lt ?_ h1
   rw[hv,Nat.add_comm,Nat.pow_add,e52]
   exact Nat.mul_le_mul_right _ m0
  exact (Nat.pow_lt_pow_iff_right (by decide)).1 this
 ·refine (Nat.log2_eq_iff (by omega)).2 ⟨by rw[e52];exact m0,by rw[show 52+1=53 by rfl,e53];exact m1⟩
def quoR (n d:Nat):Nat:=rung (quoM (mg (rung n 0)) (mg (rung d 0))) (pl (rung n 0) - pl (rung d 0) - (54+(mg (rung d 0)).log2 - (mg (rung n 0)).log2:Nat) - 1)
def backR (n d:Nat):Nat:=rung (mg (quoR n d)*mg (rung d 0)) (pl (quoR n d)+pl (rung d 0))
theorem T_mul(n k:Nat)(h:n < 2 ^ k):n*2 ^ tt < 2 ^ (k+tt):=by
 rw[Nat.pow_add];exact Nat.mul_lt_mul_of_pos_right h (Nat.two_pow_pos _)
theorem T_ge(n:Nat)(h:n≠0):2 ^ tt≤n*2 ^ tt:=Nat.le_mul_of_pos_left _ (Nat.pos_of_ne_zero h)
theorem quo_near(n d:Nat)(hn0:n≠0)(hn:n < 9007199254740992)(hd0:d≠0)(hd:d < 16777216):
  quoR n d < I∧4503599627370496*(V (quoR n d)*d)≤4503599627370497*(n*2 ^ tt)∧4503599627370495*(n*2 ^ tt)≤4503599627370496*(V (quoR n d)*d):=by
 obtain⟨a1,a2⟩:=rung_whole n hn0 hn
 obtain⟨b1,b2⟩:=rung_whole d hd0 (by omega)
 have hVa0:2 ^ tt≤V (rung n 0):=by rw[a2];exact T_ge n hn0
 have hVa1:V (rung n 0) < 2 ^ (53+tt):=by rw[a2];exact T_mul n 53 hn
 have hVb0:2 ^ tt≤V (rung d 0):=by rw[b2];exact T_ge d hd0
 have hVb1:V (rung d 0) < 2 ^ (24+tt):=by rw[b2];exact T_mul d 24 hd
 obtain⟨ea,p1,p2,p3,p4,_⟩:=norm_of tt _ (by rw[tt_eq];decide) hVa0 hVa1
 obtain⟨eb,r1,r2,r3,r4,_⟩:=norm_of tt _ (by rw[tt_eq];decide) hVb0 hVb1
 have hT:=Nat.two_pow_pos tt
 have:=div_near (x:=rung n 0) (y:=rung d 0) (Nat.lt_of_lt_of_le hT hVa0) (Nat.lt_of_lt_of_le hT hVb0) (by omega) (by omega) (by omega)
 obtain⟨h1,h2,h3⟩:=this
 refine⟨h1,?_⟩
 rw[a2,b2] at h2 h3
 change 4503599627370496*(V (quoR n d)*(d*2 ^ tt))≤_ at h2
 change _≤4503599627370496*(V (quoR n d)*(d*2 ^ tt)) at h3
 generalize V (quoR n d)=x at *
 have e:x*(d*2 ^ tt)=x*d*2 ^ tt:=(Nat.mul_assoc _ _ _).symm
 rw[e] at h2 h3
 exact⟨unscale hT h2,unscale hT h3⟩
theorem back_near(n d:Nat)(hn0:n≠0)(hn:n < 35184372088832)(hd0:d≠0)(hd:d < 16777216):
  backR n d < I∧64*V (backR n d)≤64*(n*2 ^ tt)+2 ^ tt∧64*(n*2 ^ tt)≤64*V (backR n d)+2 ^ tt:=by
 obtain⟨x1,x2,x3⟩:=quo_near n d hn0 (by omega) hd0 hd
 obtain⟨b1,b2⟩:=rung_whole d hd0 (by omega)
 have hVb0:2 ^ tt≤V (rung d 0):=by rw[b2];exact T_ge d hd0
 have hVb1:V (rung d 0) < 2 ^ (24+tt):=by rw[b2];exact T_mul d 24 hd
 obtain⟨eb,r1,r2,r3,r4,r5,r6,_⟩:=norm_of tt _ (by rw[tt_eq];decide) hVb0 hVb1
 have hT:=Nat.two_pow_pos tt
 have htt:=tt_eq
 obtain⟨t1,ht1⟩:∃t1,t1+25=tt:=⟨tt - 25,by omega⟩
 have hVx0:2 ^ t1≤V (quoR n d):=by
  rcases Nat.lt_or_ge (V (quoR n d)) (2 ^ t1) with h|h
  ·exfalso
   have k1:V (quoR n d)*d≤2 ^ t1*16777216:=Nat.mul_le_mul (Nat.le_of_lt h) (Nat.le_of_lt hd)
   have k2:2 ^ tt≤n*2 ^ tt:=T_ge n hn0
   have k3:(2:Nat) ^ tt=2 ^ t1*33554432:=by rw[show (33554432:Nat)=2 ^ 25 by decide,←Nat.pow_add,ht1]
   have k4:=Nat.two_pow_pos t1
   generalize V (quoR n d)*d=A at *
   generalize n*2 ^ tt=C at *
   rw[k3] at k2
   generalize (2:Nat) ^ t1=t at *
   omega
  ·exact h
 have hVx1:V (quoR n d) < 2 ^ (54+tt):=by
  have k1:V (quoR n d)≤V (quoR n d)*d:=Nat.le_mul_of_pos_right _ (Nat.pos_of_ne_zero hd0)
  have k2:n*2 ^ tt < 2 ^ (53+tt):=T_mul n 53 (by omega)
  have k3:(2:Nat) ^ (54+tt)=2 ^ (53+tt)*2:=by rw[←Nat.pow_succ];congr 1;omega
  rw[k3]
  generalize V (quoR n d)*d=A at *
  generalize n*2 ^ tt=C at *
  generalize (2:Nat) ^ (53+tt)=t at *
  omega
 obtain⟨ex,p1,p2,p3,p4,p5,p6,_⟩:=norm_of t1 _ (by omega) hVx0 hVx1
 have hll:(mg (quoR n d)*mg (rung d 0)).log2 < 106:=by
  refine log2_lt ?_ (Nat.mul_ne_zero (by omega) (by omega))
  rw[show 106=53+53 by rfl,Nat.pow_add,show (2:Nat) ^ 53=9007199254740992 by decide]
  exact Nat.mul_lt_mul'' p6 r6
 obtain⟨m1,m2,m3⟩:=mul_near (x:=quoR n d) (y:=rung d 0) (Nat.lt_of_lt_of_le (Nat.two_pow_pos _) hVx0) (Nat.lt_of_lt_of_le hT hVb0) (by omega) (by omega) (by omega)
 refine⟨m1,?_⟩
 change 9007199254740992*(V (backR n d)*2 ^ tt)≤_ at m2
 change _≤9007199254740992*(V (backR n d)*2 ^ tt) at m3
 rw[b2] at m2 m3
 have e:V (quoR n d)*(d*2 ^ tt)=V (quoR n d)*d*2 ^ tt:=(Nat.mul_assoc _ _ _).symm
 rw[e] at m2 m3
 have m2':=unscale hT m2
 have m3':=unscale hT m3
 have hnT:n*2 ^ tt≤35184372088832*2 ^ tt:=Nat.mul_le_mul_right _ (Nat.le_of_lt hn)
 clear m2 m3 e
 generalize V (backR n d)=y at *
 generalize V (quoR n d)*d=A at *
 generalize n*2 ^ tt=C at *
 generalize (2:Nat) ^ tt=T at *
 exact⟨by omega,by omega⟩
end Go.Proofs.YtnjjgbcmjnfijaaGreatDoor.Fl
