/- Laws of the reference's trees: what is whole stays when it is made anew, and its numbers are small. Plain Lean. No condition. -/
import Derived.Test.YtnjjgbcmjnfijaaGreatDoorGi
import Derived.Test.YtnjjgbcmjnfijaaGreatDoorFw
import Derived.Test.YtnjjgbcmjnfijaaGreatDoorG6
namespace Go.Proofs.YtnjjgbcmjnfijaaGreatDoor
open Go.RowKit
def WN (dim:Nat) (xs:List (Int × Int)):Prop:=xs.length % wd dim=0
def WNs (dim:Nat):Sh→Prop
 | .one xs=>WN dim xs
 | .two xs=>∀x∈xs,WN dim x
 | .three xs=>∀x∈xs,∀y∈x,WN dim y
def NE:Sh→Prop
 | .one xs=>xs≠[]
 | .two xs=>xs≠[]∧∀x∈xs,x≠[]
 | .three xs=>xs≠[]∧∀x∈xs,x≠[]∧∀y∈x,y≠[]
def Sh.all (p:Int × Int→Prop):Sh→Prop
 | .one xs=>∀x∈xs,p x
 | .two xs=>∀x∈xs,∀y∈x,p y
 | .three xs=>∀x∈xs,∀y∈x,∀z∈y,p z
def ShK (kind:Nat):Sh→Prop
 | .one _=>kind=1∨kind=2
 | .two _=>kind=3∨kind=4∨kind=5
 | .three _=>kind=6
theorem lf_isE(d kind dim:Nat)(xs:List (Int × Int))(hk:kind≠3):isE (d+1) (lf kind dim xs)=(xs.length == 0):=by
 unfold lf isE
 have:((kind:Int) == 3)=false:=by simp;omega
 simp[this]
theorem lf_isW(d kind dim:Nat)(xs:List (Int × Int))(hk:kind≠3):isW (d+1) (lf kind dim xs)=!(xs.length == 0):=by
 have h:=lf_isE d kind dim xs hk
 unfold lf at h ⊢
 unfold isW
 rw[h]
 cases (xs.length == 0)<;>simp
theorem lf_fo(d kind dim:Nat)(hd:dim≤3)(xs:List (Int × Int))(h:WN dim xs):fo (d+1) dim (lf kind dim xs)=lf kind dim xs:=by
 unfold lf fo
 rw[Int.toNat_natCast,nums_places dim hd _ (by rw[List.length_map];exact h)]
 rfl
theorem lf_fo_nil(d kind dim c:Nat):fo (d+1) c (lf kind dim [])=lf kind c []:=by
 unfold lf fo
 simp[places,nums]
theorem lf_nw(d kind dim:Nat)(hk:kind=1∨kind=2)(xs:List (Int × Int))(h:WN dim xs)(h1:kind=1→xs.length=wd dim):nw (d+1) (lf kind dim xs)=lf kind dim xs:=by
 have hw:=wd_pos dim
 have hN:kdN kind=kind:=by unfold kdN;rw[if_neg (by omega)]
 have e:xs.length / wd dim*wd dim=xs.length:=Nat.div_mul_cancel (Nat.dvd_of_mod_eq_zero h)
 unfold lf nw
 rw[hN,if_pos (by omega),Int.toNat_natCast,List.length_map]
 congr 1
 rcases hk with rfl|rfl
 ·rw[if_pos (show ((1:Nat):Int)=1 from rfl),h1 rfl,Nat.div_self (by omega),Nat.min_self,Nat.one_mul,List.take_of_length_le (by rw[List.length_map,h1 rfl];exact Nat.le_refl _)]
 ·rw[if_neg (show ¬((2:Nat):Int)=1 by decide),e,List.take_of_length_le (by rw[List.length_map];exact Nat.le_refl _)]
theorem and_self3(d:Nat)(h:d≤3):d &&& d=d∧3 &&& d=d:=by
 have:d=0∨d=1∨d=2∨d=3:=by omega
 rcases this with rfl|rfl|rfl|rfl<;>decide
theorem cts_same(dim:Nat)(hd:dim≤3):∀(xs:List G),(∀x∈xs,x.dim.toNat=dim)→cts dim xs=dim
 | [],_=>rfl
 | y :: xs,h=>by
  rw[cts,h y (by simp),(and_self3 dim hd).1]
  exact cts_same dim hd xs (fun x hx=>h x (by simp[hx]))
theorem cts_all(dim:Nat)(hd:dim≤3)(xs:List G)(hx:xs≠[])(h:∀x∈xs,x.dim.toNat=dim):cts 3 xs=dim:=by
 cases xs with
 | nil=>exact absurd rfl hx
 | cons y xs =>
  rw[cts,h y (by simp),(and_self3 dim hd).2]
  exact cts_same dim hd xs (fun x hx=>h x (by simp[hx]))
theorem wh_nw(d kind dim:Nat)(hd:dim≤3)(hk:3≤kind∧kind≤6)(ks:List G)(hne:ks≠[])(hn:∀x∈ks,nw d x=x)(hkd:∀x∈ks,x.kind=kidK kind)(hdm:∀x∈ks,x.dim.toNat=dim)(hfo:∀x∈ks,fo d dim x=x):nw (d+1) (wh kind dim ks)=wh kind dim ks:=by
 have hN:kdN kind=kind:=by unfold kdN;rw[if_neg (by omega)]
 have hl:ks.length≠0:=fun e=>hne (List.eq_nil_of_length_eq_zero e)
 have hO:kdO kind=kidK kind:=by
  have:kind=3∨kind=4∨kind=5∨kind=6:=by omega
  rcases this with rfl|rfl|rfl|rfl<;>rfl
 have e:(ks.map (nw d)).filter (okK kind)=ks:=by
  have e1:ks.map (nw d)=ks:=by
   conv=>rhs;rw[←List.map_id ks]
   exact List.map_congr_left (fun x hx=>hn x hx)
  rw[e1]
  refine List.filter_eq_self.2 (fun x hx=>?_)
  unfold okK
  rw[hO,hkd x hx]
  simp
 have ef:ks.map (fo d dim)=ks:=by
  conv=>rhs;rw[←List.map_id ks]
  exact List.map_congr_left (fun x hx=>hfo x hx)
 unfold wh nw
 rw[hN,if_neg (by omega),e,if_neg hl,if_neg hl,cts_all dim hd ks hne hdm]
 unfold fo
 rw[ef]
 simp[places,nums]
theorem wh_fo(d kind dim:Nat)(ks:List G)(hne:ks≠[])(hfo:∀x∈ks,fo d dim x=x):fo (d+1) dim (wh kind dim ks)=wh kind dim ks:=by
 have hl:ks.length≠0:=fun e=>hne (List.eq_nil_of_length_eq_zero e)
 have ef:ks.map (fo d dim)=ks:=by
  conv=>rhs;rw[←List.map_id ks]
  exact List.map_congr_left (fun x hx=>hfo x hx)
 unfold wh fo
 rw[ef,if_neg hl]
 simp[places,nums]
theorem wh_dim(kind dim:Nat)(ks:List G)(hne:ks≠[]):(wh kind dim ks).dim.toNat=dim:=by
 have hl:ks.length≠0:=fun e=>hne (List.eq_nil_of_length_eq_zero e)
 unfold wh
 rw[if_neg hl]
 exact Int.toNat_natCast _
theorem toG_nw(d kind dim:Nat)(hd:dim≤3)(s:Sh)(hk:ShK kind s)(hw:WNs dim s)(hne:NE s)(h1:kind=1→∀xs,s=.one xs→xs.length=wd dim)(h4:kind=4→∀xs,s=.two xs→∀x∈xs,x.length=wd dim):nw (d+3) (toG kind dim s)=toG kind dim s:=by
 cases s with
 | one xs=>exact lf_nw (d+2) kind dim hk xs hw (fun e=>h1 e xs rfl)
 | two xs =>
  have hkk:kidK kind=1∨kidK kind=2:=by rcases hk with rfl|rfl|rfl<;>decide
  refine wh_nw (d+2) kind dim hd (by unfold ShK at hk;omega) _ (by simpa using hne.1) (fun x hx=>?_) (fun x hx=>?_) (fun x hx=>?_) (fun x hx=>?_)<;>obtain⟨y,hy,rfl⟩:=List.mem_map.1 hx
  ·refine lf_nw (d+1) _ dim hkk y (hw y hy) (fun e=>?_)
   have:kind=4:=by rcases hk with rfl|rfl|rfl<;>first|rfl|(simp[kidK] at e)
   exact h4 this xs rfl y hy
  ·rfl
  ·exact Int.toNat_natCast _
  ·exact lf_fo (d+1) _ dim hd y (hw y hy)
 | three xs =>
  have hk:kind=6:=hk
  subst hk
  have hf:∀x∈xs,∀z∈x.map (lf 2 dim),∀d,fo (d+1) dim z=z:=fun x hx z hz d=>by
   obtain⟨y,hy,rfl⟩:=List.mem_map.1 hz
   exact lf_fo d _ dim hd y (hw x hx y hy)
  refine wh_nw (d+2) 6 dim hd (by omega) _ (by simpa using hne.1) (fun v hv=>?_) (fun v hv=>?_) (fun v hv=>?_) (fun v hv=>?_)<;>obtain⟨x,hx,rfl⟩:=List.mem_map.1 hv
  ·refine wh_nw (d+1) 3 dim hd (by omega) _ (by simpa using (hne.2 x hx).1) (fun v hv=>?_) (fun v hv=>?_) (fun v hv=>?_) (fun v hv=>hf x hx v hv d)<;>obtain⟨y,hy,rfl⟩:=List.mem_map.1 hv
   ·exact lf_nw d 2 dim (.inr rfl) y (hw x hx y hy) (fun e=>by simp at e)
   ·rfl
   ·exact Int.toNat_natCast _
  ·rfl
  ·exact wh_dim 3 dim _ (by simpa using (hne.2 x hx).1)
  ·exact wh_fo (d+1) 3 dim _ (by simpa using (hne.2 x hx).1) (fun y hy=>hf x hx y hy d)
theorem isW_kids{d:Nat}{k x:Int}{ns:List Nat}{ks:List G}(h:isW (d+1) (.mk k x ns ks)=true):isE (d+1) (.mk k x ns ks)=false∧∀y∈ks,isW d y=true:=by
 unfold isW at h
 cases he:isE (d+1) (.mk k x ns ks) with
 | true=>rw[he] at h;simp at h
 | false =>
  rw[he] at h
  simp only[if_neg (show ¬(false=true) by decide)] at h
  exact⟨rfl,fun y hy=>List.all_eq_true.1 h y hy⟩
theorem whole_ne(d kind dim:Nat)(s:Sh)(hk:ShK kind s)(hw:WNs dim s)(h1:kind=1→∀xs,s=.one xs→xs.length=wd dim)(h4:kind=4→∀xs,s=.two xs→∀x∈xs,x.length=wd dim)(h:isW (d+3) (nw (d+3) (toG kind dim s))=true):NE s:=by
 have kdp:∀k:Nat,3≤k→k≤6→kdN (k:Int)=(k:Int):=fun k _ h=>by unfold kdN;rw[if_neg (by omega)]
 have oke:∀k:Nat,3≤k→k≤6→kdO (k:Int)=kidK k:=fun k h3 h6=>by
  have:k=3∨k=4∨k=5∨k=6:=by omega
  rcases this with rfl|rfl|rfl|rfl<;>rfl
 have key:∀(n k:Nat) (ks:List G),3≤k→k≤6→(∀x∈ks,(nw n x).kind=kidK k)→isW (n+1) (nw (n+1) (wh k dim ks))=true→ks≠[]∧∃c,∀x∈ks,isW n (fo n c (nw n x))=true:=by
  intro n k ks h3 h6 hkd hW
  have hf:(ks.map (nw n)).filter (okK k)=ks.map (nw n):=List.filter_eq_self.2 (fun x hx=>by
   obtain⟨y,hy,rfl⟩:=List.mem_map.1 hx
   unfold okK
   rw[oke k h3 h6,hkd y hy]
   simp)
  unfold wh nw at hW
  rw[kdp k h3 h6,if_neg (by omega),hf] at hW
  by_cases h0:(ks.map (nw n)).length=0
  ·rw[if_pos h0] at hW
   have:=(isW_kids hW).1
   unfold isE at this
   split at this<;>simp at this
  ·rw[if_neg h0] at hW
   unfold fo at hW
   have:=(isW_kids hW).2
   refine⟨fun e=>h0 (by rw[e];rfl),_,fun x hx=>this _ (List.mem_map_of_mem (List.mem_map_of_mem hx))⟩
 have leaf:∀(n c k:Nat) (y:List (Int × Int)),k≠3→isW (n+1) (fo (n+1) c (lf k dim y))=true→y≠[]:=by
  rintro n c k y hk3 hW rfl
  rw[lf_fo_nil,lf_isW n k c [] hk3] at hW
  simp at hW
 cases s with
 | one xs =>
  show xs≠[]
  rintro rfl
  rw[toG,lf_nw (d+2) kind dim hk [] hw (fun e=>h1 e [] rfl),lf_isW (d+2) kind dim [] (by unfold ShK at hk;omega)] at h
  simp at h
 | two xs =>
  have hkk:kidK kind=1∨kidK kind=2:=by rcases hk with rfl|rfl|rfl<;>decide
  have hnw:∀y∈xs,nw (d+2) (lf (kidK kind) dim y)=lf (kidK kind) dim y:=fun y hy=>by
   refine lf_nw (d+1) _ dim hkk y (hw y hy) (fun e=>?_)
   have:kind=4:=by rcases hk with rfl|rfl|rfl<;>first|rfl|(simp[kidK] at e)
   exact h4 this xs rfl y hy
  obtain⟨a,c,b⟩:=key (d+2) kind (xs.map (lf (kidK kind) dim)) (by unfold ShK at hk;omega) (by unfold ShK at hk;omega) (fun x hx=>by
   obtain⟨y,hy,rfl⟩:=List.mem_map.1 hx
   rw[hnw y hy]
   rfl) h
  refine⟨by simpa using a,fun y hy=>?_⟩
  have:=b _ (List.mem_map_of_mem hy)
  rw[hnw y hy] at this
  exact leaf (d+1) c _ y (by omega) this
 | three xs =>
  have hk:kind=6:=hk
  subst hk
  have hnw:∀x∈xs,∀y∈x,nw (d+1) (lf 2 dim y)=lf 2 dim y:=fun x hx y hy=>lf_nw d 2 dim (.inr rfl) y (hw x hx y hy) (fun e=>by simp at e)
  have hkd3:∀x∈xs,(nw (d+2) (wh 3 dim (x.map (lf 2 dim)))).kind=kidK 6:=fun x hx=>by
   unfold wh nw
   rw[kdp 3 (by omega) (by omega),if_neg (by omega)]
   split
   ·rfl
   ·rfl
  obtain⟨a,c,b⟩:=key (d+2) 6 (xs.map fun x:List (List (Int × Int))=>wh 3 dim (x.map (lf 2 dim))) (by omega) (by omega) (fun z hz=>by
   obtain⟨x,hx,rfl⟩:=List.mem_map.1 hz
   exact hkd3 x hx) h
  refine⟨by simpa using a,fun x hx=>?_⟩
  have hb:=b _ (List.mem_map_of_mem hx)
  have hf:((x.map (lf 2 dim)).map (nw (d+1))).filter (okK 3)=x.map (lf 2 dim):=by
   have e1:(x.map (lf 2 dim)).map (nw (d+1))=x.map (lf 2 dim):=by
    rw[List.map_map]
    exact List.map_congr_left (fun y hy=>hnw x hx y hy)
   rw[e1]
   refine List.filter_eq_self.2 (fun z hz=>?_)
   obtain⟨y,hy,rfl⟩:=List.mem_map.1 hz
   rfl
  unfold wh nw at hb
  rw[kdp 3 (by omega) (by omega),if_neg (by omega)] at hb
  rw[show (((3:Nat):Int))=3 from rfl,hf] at hb
  by_cases h0:(x.map (lf 2 dim)).length=0
  ·rw[if_pos h0] at hb
   unfold fo at hb
   have:=(isW_kids hb).1
   unfold isE at this
   simp at this
  ·rw[if_neg h0] at hb
   have hxn:x≠[]:=fun e=>h0 (by rw[e];rfl)
   refine⟨hxn,fun y hy=>?_⟩
   rintro rfl
   unfold fo at hb
   unfold fo at hb
   have:=(isW_kids hb).2 _ (List.mem_map_of_mem (List.mem_map_of_mem (List.mem_map_of_mem hy)))
   rw[lf_fo_nil,lf_fo_nil,lf_isW d 2 _ [] (by omega)] at this
   simp at this
theorem toG_all(d kind dim:Nat)(s:Sh)(h:isS (d+3) (toG kind dim s)=true):s.all (fun x=>smF (flp x)=true):=by
 have leaf:∀(n k:Nat) (y:List (Int × Int)),isS (n+1) (lf k dim y)=true→∀x∈y,smF (flp x)=true:=fun n k y h x hx=>by
  unfold lf isS at h
  rw[Bool.and_eq_true] at h
  exact List.all_eq_true.1 h.1 _ (List.mem_map_of_mem hx)
 have kids:∀(n k:Nat) (ks:List G),isS (n+1) (wh k dim ks)=true→∀x∈ks,isS n x=true:=fun n k ks h x hx=>by
  unfold wh isS at h
  rw[Bool.and_eq_true] at h
  exact List.all_eq_true.1 h.2 _ hx
 cases s with
 | one xs=>exact leaf (d+2) _ _ h
 | two xs=>exact fun x hx=>leaf (d+1) _ _ (kids _ _ _ h _ (List.mem_map_of_mem hx))
 | three xs=>exact fun x hx y hy=>leaf d _ _ (kids _ _ _ (kids _ _ _ h _ (List.mem_map_of_mem hx)) _ (List.mem_map_of_mem hy))
theorem V_meg:Fl.V 4697254411347427328=1048576*2 ^ Fl.tt:=by
 have htt:=Fl.tt_eq
 obtain⟨k,hk⟩:∃k:Nat,k=1042:=⟨_,rfl⟩
 have:=Fl.V_norm k 4503599627370496 (by omega) (by omega)
 rw[show k*4503599627370496+4503599627370496=4697254411347427328 by omega] at this
 rw[this,show Fl.tt=32+k by omega,Nat.pow_add,←Nat.mul_assoc]
theorem le_of_cmp{a b:Int}(h:(some (compare a b) == some .lt || some (compare a b) == some .eq)=true):a≤b:=by
 simp only[compare,compareOfLessAndEq] at h
 by_cases h1:a < b
 ·omega
 ·by_cases h2:a=b
  ·omega
  ·simp[h1,h2] at h
theorem ge_of_cmp{a b:Int}(h:(some (compare a b) == some .gt || some (compare a b) == some .eq)=true):b≤a:=by
 simp only[compare,compareOfLessAndEq] at h
 by_cases h1:a < b
 ·simp[h1] at h
 ·omega
theorem sm_small(n:Int)(p:Nat)(hn:n.natAbs < 9007199254740992)(hp:p≤7)(h:smF (vl n p)=true):n.natAbs < 35184372088832:=by
 have hM:(4697254411347427328:Nat) < Fl.I:=by unfold Fl.I;omega
 have hr:=vlR_lt n p hn hp
 refine small_of n p hn hp ?_
 rw[←V_meg]
 unfold smF geF leF at h
 rw[vl_val n p hn hp,Bool.and_eq_true] at h
 obtain⟨h1,h2⟩:=h
 have h1:(Fl.F.order (Fl.sg (decide (n < 0)) (vlR n p)) (Fl.sg true 4697254411347427328) == some .gt || Fl.F.order (Fl.sg (decide (n < 0)) (vlR n p)) (Fl.sg true 4697254411347427328) == some .eq)=true:=h1
 have h2:(Fl.F.order (Fl.sg (decide (n < 0)) (vlR n p)) (Fl.sg false 4697254411347427328) == some .lt || Fl.F.order (Fl.sg (decide (n < 0)) (vlR n p)) (Fl.sg false 4697254411347427328) == some .eq)=true:=h2
 obtain⟨a,b,_,_,e1,e2,_,_⟩:=Fl.order_pos hr hM
 have e3:=order_V hr hM
 rw[e1] at e3
 injection e3 with e3
 cases hs:decide (n < 0) with
 | true =>
  rw[hs,e2] at h1
  have hba:=ge_of_cmp h1
  have:(Fl.V (vlR n p):Int)≤(Fl.V 4697254411347427328:Int):=by
   refine le_of_cmp ?_
   rw[←e3]
   simp only[compare,compareOfLessAndEq]
   by_cases h5:a < b
   ·simp[h5]
   ·have:a=b:=by omega
    simp[this]
  omega
 | false =>
  rw[hs,e1,e3] at h2
  have:=le_of_cmp h2
  omega
theorem sm_edge:∀p:Fin 8,smF (vl 9007199254740992 p.val)=false∧smF (vl (-9007199254740992) p.val)=false:=by decide +kernel
theorem eq_edge:∀p:Fin 8,eqF (vl 9007199254740992 p.val) (vl 9007199254740992 p.val)=true∧eqF (vl (-9007199254740992) p.val) (vl (-9007199254740992) p.val)=true:=by decide +kernel
theorem sm_any(n:Int)(p:Nat)(hn : -9007199254740992≤n∧n≤9007199254740992)(hp:p≤7)(h:smF (vl n p)=true):n.natAbs < 35184372088832:=by
 have he:=sm_edge ⟨p,by omega⟩
 rcases Nat.lt_or_ge n.natAbs 9007199254740992 with h1|h1
 ·exact sm_small n p h1 hp h
 ·have:n=9007199254740992∨n = -9007199254740992:=by omega
  rcases this with rfl|rfl
  ·rw[he.1] at h;simp at h
  ·rw[he.2] at h;simp at h
theorem eq_any(n:Int)(p:Nat)(hn : -9007199254740992≤n∧n≤9007199254740992)(hp:p≤7):eqF (vl n p) (vl n p)=true:=by
 have he:=eq_edge ⟨p,by omega⟩
 rcases Nat.lt_or_ge n.natAbs 9007199254740992 with h1|h1
 ·exact eqF_refl n p h1 hp
 ·have:n=9007199254740992∨n = -9007199254740992:=by omega
  rcases this with rfl|rfl
  ·exact he.1
  ·exact he.2
def ShW (ps:List Int):Sh→Prop:=fun s=>s.all (fun x=>x.1∈ps ∧ -9007199254740992≤x.2∧x.2≤9007199254740992)
theorem WR.mem{ps:List Int}{n:Nat}{xs:List (Int × Int)}(h:WR ps n xs):∀x∈xs,x.1∈ps ∧ -9007199254740992≤x.2∧x.2≤9007199254740992:=fun x hx=>by
 refine⟨?_,h.bd x hx⟩
 have:x.1∈xs.map (·.1):=List.mem_map_of_mem hx
 rw[h.fst] at this
 exact cyc_mem _ _ _ this
theorem WS.parts{mx kind dim:Nat}{ps:List Int}{s:Sh}(h:WS mx kind ps s)(hd:ps.length=wd dim):ShK kind s∧WNs dim s∧ShW ps s∧(kind=1→∀xs,s=.one xs→xs.length=wd dim)∧(kind=4→∀xs,s=.two xs→∀x∈xs,x.length=wd dim):=by
 have wn:∀{n:Nat}{xs:List (Int × Int)},WR ps n xs→WN dim xs:=fun {n xs} hw=>by
  unfold WN
  rw[hw.len,hd]
  exact Nat.mul_mod_left _ _
 unfold WS at h
 split at h
 ·refine⟨.inl rfl,wn h,h.mem,fun _ xs e=>?_,fun e=>by omega⟩
  injection e with e
  subst e
  rw[h.len,hd,Nat.one_mul]
 ·obtain⟨n,hn,hw⟩:=h
  exact⟨.inr rfl,wn hw,hw.mem,fun e=>by omega,fun e=>by omega⟩
 ·refine⟨.inl rfl,fun x hx=>?_,fun x hx=>?_,fun e=>by omega,fun e=>by omega⟩
  ·obtain⟨_,n,_,hw⟩:=h.2 x hx;exact wn hw
  ·obtain⟨_,n,_,hw⟩:=h.2 x hx;exact hw.mem
 ·refine⟨.inr (.inl rfl),fun x hx=>wn (h.2 x hx),fun x hx=>(h.2 x hx).mem,fun e=>by omega,fun _ xs e=>?_⟩
  injection e with e
  subst e
  intro x hx
  rw[(h.2 x hx).len,hd,Nat.one_mul]
 ·refine⟨.inr (.inr rfl),fun x hx=>?_,fun x hx=>?_,fun e=>by omega,fun e=>by omega⟩
  ·obtain⟨n,_,hw⟩:=h.2 x hx;exact wn hw
  ·obtain⟨n,_,hw⟩:=h.2 x hx;exact hw.mem
 ·refine⟨rfl,fun x hx y hy=>?_,fun x hx y hy=>?_,fun e=>by omega,fun e=>by omega⟩
  ·obtain⟨_,n,_,hw⟩:=(h.2 x hx).2 y hy;exact wn hw
  ·obtain⟨_,n,_,hw⟩:=(h.2 x hx).2 y hy;exact hw.mem
 ·exact h.elim
theorem Sh.all_imp{p q:Int × Int→Prop}{s:Sh}(h:s.all p)(k:∀x,p x→q x):s.all q:=by
 cases s with
 | one xs=>exact fun x hx=>k x (h x hx)
 | two xs=>exact fun x hx y hy=>k y (h x hx y hy)
 | three xs=>exact fun x hx y hy z hz=>k z (h x hx y hy z hz)
theorem Sh.all_and{p q:Int × Int→Prop}{s:Sh}(h:s.all p)(k:s.all q):s.all (fun x=>p x∧q x):=by
 cases s with
 | one xs=>exact fun x hx=>⟨h x hx,k x hx⟩
 | two xs=>exact fun x hx y hy=>⟨h x hx y hy,k x hx y hy⟩
 | three xs=>exact fun x hx y hy z hz=>⟨h x hx y hy z hz,k x hx y hy z hz⟩
theorem again_shape{d kind dim:Nat}{ids:Bool}{ps Q:List Int}{l l':List UInt8}{s:Sh}{is:List Int}(hb:BodyP 4096 kind ids ps Q l s is l')(hd:dim≤3)(hpl:ps.length=wd dim)(hps:∀p∈ps,0≤p∧p≤7)
  (hW:isW (d+3) (nw (d+3) (toG kind dim s))=true) (hS:isS (d+3) (nw (d+3) (toG kind dim s))=true) :
  nw (d+3) (toG kind dim s)=toG kind dim s∧NE s∧WS 5000 kind ps s∧s.all (fun x=>x.1∈ps∧x.2.natAbs < 35184372088832):=by
 have hp:0 < ps.length:=by rw[hpl];have:=wd_pos dim;omega
 have ws:=hb.ws hp (fun x hx hn=>by
  have h1:=hps _ hx
  exact eq_any x.2 x.1.toNat hn (by omega))
 obtain⟨p1,p2,p3,p4,p5⟩:=ws.parts hpl
 have ne:=whole_ne d kind dim s p1 p2 p4 p5 hW
 have e:=toG_nw d kind dim hd s p1 p2 ne p4 p5
 rw[e] at hS
 refine⟨e,ne,ws,Sh.all_imp (Sh.all_and p3 (toG_all d kind dim s hS)) (fun x hx=>⟨hx.1.1,?_⟩)⟩
 have h1:=hps _ hx.1.1
 exact sm_any x.2 x.1.toNat hx.1.2 (by omega) hx.2
end Go.Proofs.YtnjjgbcmjnfijaaGreatDoor
