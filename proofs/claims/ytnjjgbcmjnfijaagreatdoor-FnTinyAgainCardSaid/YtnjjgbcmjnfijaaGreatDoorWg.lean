/- The package math's Round. No condition. -/
import Derived.Test.YtnjjgbcmjnfijaaGreatDoorGh
import Derived.Test.YtnjjgbcmjnfijaaGreatDoorFw
import Derived.Laws.BitsAllLaws
namespace Go.Proofs.YtnjjgbcmjnfijaaGreatDoor
set_option maxRecDepth 100000
set_option maxHeartbeats 1000000
open Go.RowKit
theorem call236(n:Int)(w:World):(callFunc 236 #[.int .u64 n]).run Tryz.prog w=.ok (.value (.float .f64 n.toNat)) w:=by kernel_rfl
theorem and_top(s:Bool)(b:Nat)(hb:b < 2 ^ 63):Fl.sg s b &&& 2 ^ 63=Fl.sg s 0:=by
 apply Nat.eq_of_testBit_eq
 intro i
 rw[Nat.testBit_and,Nat.testBit_two_pow]
 unfold Fl.sg Fl.S
 by_cases h:63=i
 ·subst h
  cases s
  ·simp[Nat.testBit_lt_two_pow hb]
  ·have e:(9223372036854775808:Nat)=2 ^ 63:=rfl
   simp only[if_true,e]
   rw[Nat.testBit_two_pow_add_eq,Nat.testBit_lt_two_pow hb,Nat.add_zero,Nat.testBit_two_pow]
   simp
 ·cases s
  ·simp[h]
  ·have e:(9223372036854775808:Nat)=2 ^ 63:=rfl
   simp only[if_true,e]
   rw[Nat.add_zero,Nat.testBit_two_pow]
   simp[h]
theorem and_high(a j:Nat)(ha:a < 2 ^ 64)(hj:j≤64):a &&& (2 ^ 64 - 2 ^ j)=a - a % 2 ^ j:=by
 have e1:2 ^ 64 - 2 ^ j=2 ^ j*(2 ^ (64 - j) - 1):=by
  rw[Nat.mul_sub,←Nat.pow_add,Nat.mul_one,show j+(64 - j)=64 by omega]
 have e2:a - a % 2 ^ j=2 ^ j*(a / 2 ^ j):=by
  have:=Nat.div_add_mod a (2 ^ j)
  omega
 rw[e1,e2]
 apply Nat.eq_of_testBit_eq
 intro i
 rw[Nat.testBit_and,Nat.testBit_two_pow_mul,Nat.testBit_two_pow_mul,Nat.testBit_two_pow_sub_one,Nat.testBit_div_two_pow]
 by_cases h:i ≥ j
 ·by_cases h2:i < 64
  ·simp[h,show i - j < 64 - j by omega,show i - j+j=i by omega]
  ·have:a.testBit i=false:=Nat.testBit_lt_two_pow (Nat.lt_of_lt_of_le ha (Nat.pow_le_pow_right (by decide) (by omega)))
   simp[h,this,show i - j+j=i by omega]
 ·simp[h]
theorem round_mid(s:Bool)(b e:Nat)(he:e=b / 4503599627370496)(h1:¬e < 1023)(h2:e < 1075):
  (bits .andNot .u64 (IntKind.u64.wrap (((Fl.sg s b:Nat):Int)+2251799813685248 / 2 ^ (e - 1023))) (4503599627370495 / 2 ^ (e - 1023))).toNat=Fl.sg s (Fl.rnd b):=by
 obtain⟨k,hk⟩:∃k,k=e - 1023:=⟨_,rfl⟩
 obtain⟨h,hh⟩:∃h,h=2251799813685248 / 2 ^ k:=⟨_,rfl⟩
 have hhle:h≤2251799813685248:=by rw[hh];exact Nat.div_le_self _ _
 have eh:(2251799813685248:Int) / 2 ^ (e - 1023)=(h:Int):=by rw[hh,←hk];simp
 have em:(4503599627370495:Int) / 2 ^ (e - 1023)=((2 ^ (52 - k) - 1:Nat):Int):=by
  have:4503599627370495 / 2 ^ k=2 ^ (52 - k) - 1:=by
   have hp:2 ^ (52 - k)*2 ^ k=4503599627370496:=by rw[←Nat.pow_add,show 52 - k+k=52 by omega]
   have hk0:=Nat.two_pow_pos k
   have hk1:=Nat.two_pow_pos (52 - k)
   have:4503599627370495=(2 ^ (52 - k) - 1)*2 ^ k+(2 ^ k - 1):=by
    rw[Nat.sub_mul,hp,Nat.one_mul]
    have:2 ^ k≤4503599627370496:=by rw[←hp];exact Nat.le_mul_of_pos_left _ hk1
    omega
   rw[this,Nat.add_comm,Nat.add_mul_div_right _ _ hk0,Nat.div_eq_of_lt (by omega),Nat.zero_add]
  rw[←this,←hk]
  simp
 have hsg:Fl.sg s b+h < 18446744073709551616:=by unfold Fl.sg Fl.S;split<;>omega
 have ew:IntKind.u64.wrap (((Fl.sg s b:Nat):Int)+(h:Int))=((Fl.sg s b+h:Nat):Int):=by
  simp[IntKind.wrap,IntKind.bits,IntKind.signed];omega
 have hm:2 ^ (52 - k)≤4503599627370496:=by
  have:=Nat.pow_le_pow_right (n:=2) (by decide) (show 52 - k≤52 by omega)
  exact this
 rw[eh,em,ew,u64_andNot_nat _ _ hsg (by omega),Int.toNat_natCast]
 have e3:18446744073709551615 - (2 ^ (52 - k) - 1)=2 ^ 64 - 2 ^ (52 - k):=by
  have:=Nat.two_pow_pos (52 - k)
  omega
 rw[e3,and_high _ _ hsg (by omega)]
 unfold Fl.rnd
 rw[←he,if_neg h1,if_pos h2,←hk,←hh]
 have hd:(Fl.sg s b+h) % 2 ^ (52 - k)=(b+h) % 2 ^ (52 - k):=by
  unfold Fl.sg Fl.S
  split
  ·have:9223372036854775808=2 ^ (52 - k)*2 ^ (11+k):=by rw[←Nat.pow_add,show 52 - k+(11+k)=63 by omega]
   rw[this,Nat.add_assoc,Nat.mul_add_mod]
  ·rfl
 rw[hd]
 have hle:=Nat.mod_le (b+h) (2 ^ (52 - k))
 unfold Fl.sg Fl.S
 split<;>omega
theorem round351(s:Bool)(b:Nat)(hb:b < Fl.I)(w:World):Calls Tryz.prog 351 #[.float .f64 (Fl.sg s b)] w fun e w'=>e=.returned (.float .f64 (Fl.sg s (Fl.rnd b)))∧w=w':=by
 obtain⟨X,hX⟩:∃X,X=Fl.sg s b:=⟨_,rfl⟩
 obtain⟨R,hR⟩:∃R,R=Fl.sg s (Fl.rnd b):=⟨_,rfl⟩
 obtain⟨e,he⟩:∃e,e=b / 4503599627370496:=⟨_,rfl⟩
 have hI:b < 9218868437227405312:=hb
 have hX64:X < 18446744073709551616:=by rw[hX];unfold Fl.sg Fl.S;split<;>omega
 have he2:e < 2047:=by omega
 have hand:bits .and .u64 ((X:Int) / 4503599627370496) 2047=(e:Int):=by
  have h1:=u64_and_nat (X / 4503599627370496) 2047 (by omega) (by omega)
  rw[show (X:Int) / 4503599627370496=((X / 4503599627370496:Nat):Int) by simp]
  rw[show (2047:Int)=((2047:Nat):Int) from rfl,h1,show (2047:Nat)=2 ^ 11 - 1 from rfl,Nat.and_two_pow_sub_one_eq_mod]
  congr 1
  rw[hX,he]
  unfold Fl.sg Fl.S
  split<;>omega
 have c97:=call97 X
 have c236:=call236
 rw[←hX,←hR]
 have HX:=zH hX
 have HR:=zH hR
 have HE:=zH he
 obtain⟨Y,hY⟩:∃Y:Int,Y=(X:Int):=⟨_,rfl⟩
 have hYn:Y.toNat=X:=by omega
 rw[←hY] at c97 hand
 have HY:=zH hY
 clear hX hR he hY hb hI
 by_cases h1:e < 1023
 ·obtain⟨T1,hT1⟩:∃T1:Nat,T1=Fl.sg s 0:=⟨_,rfl⟩
  obtain⟨T2,hT2⟩:∃T2:Nat,T2=Fl.sg s 4607182418800017408:=⟨_,rfl⟩
  have a1:bits .and .u64 Y 9223372036854775808=(T1:Int):=by
   have hb:b < 2 ^ 63:=by have:=HE.out;omega
   rw[HY.out,show (9223372036854775808:Int)=((9223372036854775808:Nat):Int) from rfl,u64_and_nat X 9223372036854775808 hX64 (by decide),HX.out,hT1]
   exact congrArg Int.ofNat (and_top s b hb)
  have a2:bits .or .u64 (T1:Int) 4607182418800017408=(T2:Int):=by rw[hT1,hT2];cases s<;>decide
  have h1075:e < 1075:=by omega
  obtain⟨z,hz⟩:∃z,z=decide (e=1022):=⟨_,rfl⟩
  have HT1:=zH hT1
  have HT2:=zH hT2
  have h1i:(e:Int) < 1023:=by omega
  have hRR:Hid (R=if e=1022 then T2 else T1):=by
   show _=_
   rw[HR.out,hT1,hT2]
   unfold Fl.rnd
   rw[←HE.out,if_pos h1]
   split<;>rfl
  clear hT1 hT2
  by_cases h3:e=1022
  ·have hz:((e:Int) == 1022)=true:=by simp[h3]
   have hR2:R=T2:=by rw[hRR.out,if_pos h3]
   clear h3
   go_enter Tryz.func351,Tryz.ntmps351
   go_wp2_with fail
   go_ret
   rw[hR2]
   exact⟨rfl,rfl⟩
  ·have hz:((e:Int) == 1022)=false:=by simp;omega
   have hR2:R=T1:=by rw[hRR.out,if_neg h3]
   go_enter Tryz.func351,Tryz.ntmps351
   go_wp2_with fail
   go_ret
   rw[hR2]
   exact⟨rfl,rfl⟩
 ·by_cases h2:e < 1075
  ·have hw1:IntKind.u64.wrap ((e:Int) - 1023)=((e - 1023:Nat):Int):=by
    rw[show (e:Int) - 1023=((e - 1023:Nat):Int) by omega]
    simp[IntKind.wrap,IntKind.bits,IntKind.signed];omega
   have hR2:Hid ((bits .andNot .u64 (IntKind.u64.wrap (Y+2251799813685248 / 2 ^ (e - 1023))) (4503599627370495 / 2 ^ (e - 1023))).toNat=R):=by
    show _=_
    rw[HY.out,HX.out,HR.out]
    exact round_mid s b e HE.out h1 h2
   have hi1:¬((e:Int) < 1023):=by omega
   have hi2:(e:Int) < 1075:=by omega
   go_enter Tryz.func351,Tryz.ntmps351
   go_wp2_with fail
   go_ret
   rw[←hR2.out]
   exact⟨rfl,rfl⟩
  ·have hR2:R=X:=by
    rw[HR.out,HX.out]
    unfold Fl.rnd
    rw[←HE.out,if_neg h1,if_neg h2]
   go_enter Tryz.func351,Tryz.ntmps351
   go_wp2_with fail
   go_ret
   rw[hR2]
   exact⟨rfl,rfl⟩
end Go.Proofs.YtnjjgbcmjnfijaaGreatDoor
