/- The package math's tables of powers of ten, as the row lays them. Condition: the listed package-level variables read as the program's text lays them. -/
import Derived.Test.YtnjjgbcmjnfijaaGreatDoorRd
import Derived.Test.YtnjjgbcmjnfijaaGreatDoorRows
import Derived.Lib.LaidU8
import Derived.Laws.Rows
namespace Go.Proofs.YtnjjgbcmjnfijaaGreatDoor
open Go.RowKit Go.Lib
section
variable {P:Program}{w:World}
theorem lit_float_inj{k k':FloatKind}{a b:Nat}{p q:List MemPlace}(h:((DataW.lit (.float k a):DataW Unit),p)=(.lit (.float k' b),q)):k=k'∧a=b:=by
 injection h with h _
 injection h with h
 injection h with h1 h2
 exact⟨h1,h2⟩
theorem float_reads{t:TypeId}{k:FloatKind}{fuel:Nat}{cs:List Value}{x:DataW Unit × List MemPlace}(ht:P.underlying t=some (.float k))(h:DataW.trod (fun _=>()) P w 0 (fun _=>true) false fuel t cs=some x):∃n,cs=[.float k n]∧x=(.lit (.float k n),[]):=by
 cases fuel with
 | zero=>simp[DataW.trod] at h
 | succ n =>
  unfold DataW.trod at h
  rw[ht] at h
  split at h<;>simp_all
theorem reads_open{n:String}{d:DataW Unit}{g:Nat}{t:TypeId}(h:VarReads P w n d)(hg:P.globalNamed n=some g)(ht:(P.globals[g]?).map (·.type)=some t):
  ∃(cs:List Value) (fuel:Nat) (p:List MemPlace),DataW.trod (fun _=>()) P w 0 (fun _=>true) false fuel t cs=some (d,p)∧∀i,w.cell? ⟨g,i,none⟩=cs[i]?:=by
 obtain⟨g',t',cs,fuel,p,h1,h2,h3,h4⟩:=h
 obtain rfl:=Option.some.inj (hg.symm.trans h1)
 obtain rfl:=Option.some.inj (ht.symm.trans h2)
 refine⟨cs.toList,fuel,p,h4,fun i=>?_⟩
 rw[World.var?_cell hg h3 i]
 simp
theorem take_one{cs:List Value}{o:Nat}{v:Value}(h:(cs.drop o).take 1=[v]):cs[o]?=some v:=by
 have:=congrArg (fun l:List Value=>l[0]?) h
 simpa [List.getElem?_take,List.getElem?_drop] using this
end
def Laid:List (String × DataW Unit):=Rows.fnTinyAgainRow.laid
theorem tab_float{W:World}{t:TypeId}{n:Nat}{cs:List Value}{fuel:Nat}{p:List MemPlace}{ds:List (DataW Unit)}(ht:Tryz.prog.underlying t=some (.array n 40))(h:DataW.trod (fun _=>()) Tryz.prog W 0 (fun _=>true) false fuel t cs=some (.agg ds,p))(i:Nat)(hi:i < n)(x:Nat)(hx:ds[i]?=some (.lit (.float .f64 x))):cs[i]?=some (.float .f64 x):=by
 have c40:Tryz.prog.cellsOf 40=1:=by kernel_rfl
 obtain⟨f',d,q,hd,h3⟩:=array_elem ht h i hi
 rw[hx] at hd
 have hd':=Option.some.inj hd
 subst hd'
 rw[c40,Nat.mul_one] at h3
 obtain⟨y,h4,h5⟩:=float_reads Tryz.underlying40 h3
 obtain⟨_,h6⟩:=lit_float_inj h5
 rw[h6]
 exact take_one h4
theorem tn_vals:tn 0=4607182418800017408∧tn 1=4621819117588971520∧tn 2=4636737291354636288∧tn 3=4652007308841189376∧tn 4=4666723172467343360∧tn 5=4681608360884174848∧tn 6=4696837146684686336∧tn 7=4711630319722168320:=by decide +kernel
theorem laid_tens{W:World}(h:laidMet Tryz.prog Laid W):TenTab W:=by
 obtain⟨t0,t1,t2,t3,t4,t5,t6,t7⟩:=tn_vals
 refine⟨?_,fun i hi=>?_⟩
 ·obtain⟨cs,fuel,p,h1,h2⟩:=reads_open (laidMet.reads h (n:= "math.pow10postab32") (d:=Rows.laid_math_pow10postab32) (List.mem_of_getElem? (i:=1) rfl)) (g:=1) (t:=284) (by kernel_rfl) (by kernel_rfl)
  rw[h2 0]
  exact tab_float Tryz.underlying284 h1 0 (by decide) _ rfl
 ·obtain⟨cs,fuel,p,h1,h2⟩:=reads_open (laidMet.reads h (n:= "math.pow10tab") (d:=Rows.laid_math_pow10tab) (List.mem_of_getElem? (i:=0) rfl)) (g:=2) (t:=285) (by kernel_rfl) (by kernel_rfl)
  rw[h2 i]
  have hc:i=0∨i=1∨i=2∨i=3∨i=4∨i=5∨i=6∨i=7:=by omega
  rcases hc with rfl|rfl|rfl|rfl|rfl|rfl|rfl|rfl
  ·rw[t0];exact tab_float Tryz.underlying285 h1 _ (by decide) _ rfl
  ·rw[t1];exact tab_float Tryz.underlying285 h1 _ (by decide) _ rfl
  ·rw[t2];exact tab_float Tryz.underlying285 h1 _ (by decide) _ rfl
  ·rw[t3];exact tab_float Tryz.underlying285 h1 _ (by decide) _ rfl
  ·rw[t4];exact tab_float Tryz.underlying285 h1 _ (by decide) _ rfl
  ·rw[t5];exact tab_float Tryz.underlying285 h1 _ (by decide) _ rfl
  ·rw[t6];exact tab_float Tryz.underlying285 h1 _ (by decide) _ rfl
  ·rw[t7];exact tab_float Tryz.underlying285 h1 _ (by decide) _ rfl
end Go.Proofs.YtnjjgbcmjnfijaaGreatDoor
