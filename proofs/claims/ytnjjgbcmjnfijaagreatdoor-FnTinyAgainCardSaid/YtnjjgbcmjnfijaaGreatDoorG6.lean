/- What tiny bytes say behind the headers. Plain Lean. No condition. -/
import Derived.Test.YtnjjgbcmjnfijaaGreatDoorG5
import Derived.Deep.RegionHeld3
import Derived.IntWalk
namespace Go.Proofs.YtnjjgbcmjnfijaaGreatDoor
set_option maxRecDepth 100000
set_option maxHeartbeats 4000000
open Go.RowKit
def closedP (m:Nat) (xs:List (Int × Int)):List (Int × Int):=if xs.length < 2*m∨eqFs ((xs.take m).map flp) ((xs.drop (xs.length - m)).map flp)=true then xs else xs++xs.take m
def RingP (mx:Nat) (ps Q:List Int) (l:List UInt8) (xs:List (Int × Int)) (Q':List Int) (l':List UInt8):Prop :=
 ∃ys,LineP mx ps Q l ys Q' l'∧xs=closedP ps.length ys
def PolyP (mx:Nat) (ps Q:List Int) (l:List UInt8) (xs:List (List (Int × Int))) (Q':List Int) (l':List UInt8):Prop :=
 ∃n l0,n≤4096∧UV l n l0∧SqP (RingP mx ps) n Q l0 xs Q' l'
def IdsP (ids:Bool) (n:Nat) (l:List UInt8) (is:List Int) (l':List UInt8):Prop :=
 if ids=true then RC l is l'∧is.length=n else is=[]∧l'=l
inductive Sh where
 | one (xs:List (Int × Int))
 | two (xs:List (List (Int × Int)))
 | three (xs:List (List (List (Int × Int))))
def BodyQ (mx kind:Nat) (ids:Bool) (ps Q:List Int) (l:List UInt8) (s:Sh) (is Q':List Int) (l':List UInt8):Prop :=
 match kind,s with
 | 1,.one xs=>RowP ps Q 1 l xs Q' l'∧is=[]
 | 2,.one xs=>LineP mx ps Q l xs Q' l'∧is=[]
 | 3,.two xs=>PolyP mx ps Q l xs Q' l'∧is=[]
 | 4,.two xs=>∃n l0 l1,n≤4096∧UV l n l0∧IdsP ids n l0 is l1∧SqP (fun Q l=>RowP ps Q 1 l) n Q l1 xs Q' l'
 | 5,.two xs=>∃n l0 l1,n≤4096∧UV l n l0∧IdsP ids n l0 is l1∧SqP (LineP mx ps) n Q l1 xs Q' l'
 | 6,.three xs=>∃n l0 l1,n≤4096∧UV l n l0∧IdsP ids n l0 is l1∧SqP (PolyP mx ps) n Q l1 xs Q' l'
 | _,_=>False
def BodyP (mx kind:Nat) (ids:Bool) (ps Q:List Int) (l:List UInt8) (s:Sh) (is:List Int) (l':List UInt8):Prop:=∃Q',BodyQ mx kind ids ps Q l s is Q' l'
def precsOf (xy:Int) (b2:Nat):List Int:=[xy,xy]++(if b2 % 2=1 then [((b2 / 4 % 8:Nat):Int)] else [])++(if b2 / 2 % 2=1 then [((b2 / 32:Nat):Int)] else [])
def ExtP (has:Bool) (xy:Int) (r:List UInt8) (dim:Nat) (ps:List Int) (r':List UInt8):Prop :=
 if has=true then ∃b2:UInt8,r=b2 :: r'∧dim=b2.toNat % 4∧ps=precsOf xy b2.toNat else r'=r∧dim=0∧ps=[xy,xy]
def SizeP (has:Bool) (r r':List UInt8):Prop:=if has=true then ∃z,UV r z r'∧z≤r'.length else r'=r
def BoxP (has:Bool) (m:Nat) (r r':List UInt8):Prop :=
 if has=true then ∃ds,RC r ds r'∧ds.length=2*m∧∀d∈ds,-18014398509481984≤d∧d≤18014398509481984 else r'=r
def HeadP (l:List UInt8) (kind meta_ dim:Nat) (xy:Int) (ps:List Int) (l':List UInt8):Prop :=
 ∃(b0 b1:UInt8) (r1 r2 r3:List UInt8),l=b0 :: b1 :: r1∧kind=b0.toNat % 16∧xy=unz ((b0.toNat / 16:Nat):Int)∧meta_=b1.toNat ∧
  ExtP (b1.toNat / 8 % 2 == 1) xy r1 dim ps r2∧SizeP (b1.toNat / 2 % 2 == 1) r2 r3∧BoxP (b1.toNat % 2 == 1) ps.length r3 l'
theorem closed_closed(m:Nat)(hm:0 < m)(xs:List (Int × Int))(hr:∀x∈xs,eqF (flp x) (flp x)=true):closedP m (closedP m xs)=closedP m xs:=by
 have refl:∀ys:List (Int × Int),(∀y∈ys,eqF (flp y) (flp y)=true)→eqFs (ys.map flp) (ys.map flp)=true:=by
  intro ys
  induction ys with
  | nil=>intro _;rfl
  | cons y ys ih=>intro h;simp only[List.map_cons,eqFs,h y (by simp),ih (fun z hz=>h z (by simp[hz])),Bool.and_self]
 by_cases h:xs.length < 2*m∨eqFs ((xs.take m).map flp) ((xs.drop (xs.length - m)).map flp)=true
 ·have:closedP m xs=xs:=by unfold closedP;rw[if_pos h]
  rw[this,this]
 ·have e:closedP m xs=xs++xs.take m:=by unfold closedP;rw[if_neg h]
  rw[e]
  have hl:¬xs.length < 2*m:=fun h2=>h (.inl h2)
  have e1:(xs++xs.take m).take m=xs.take m:=by rw[List.take_append_of_le_length (by omega)]
  have e2:(xs++xs.take m).drop ((xs++xs.take m).length - m)=xs.take m:=by
   rw[List.length_append,List.length_take,show xs.length+min m xs.length - m=xs.length by omega]
   simp
  have hh:eqFs (((xs++xs.take m).take m).map flp) (((xs++xs.take m).drop ((xs++xs.take m).length - m)).map flp)=true:=by
   rw[e1,e2]
   exact refl _ (fun y hy=>hr y (List.mem_of_mem_take hy))
  unfold closedP
  rw[if_pos (.inr hh)]
theorem WR.closed{ps:List Int}{n:Nat}{xs:List (Int × Int)}(h:WR ps n xs)(hp:0 < ps.length):∃k,k≤n+1∧WR ps k (closedP ps.length xs):=by
 unfold closedP
 split
 ·exact⟨n,by omega,h⟩
 ·next hc =>
  have hl:¬xs.length < 2*ps.length:=fun h2=>hc (.inl h2)
  have h1:=h.len
  have hl2:(xs++xs.take ps.length).length=(n+1)*ps.length:=by
   rw[List.length_append,List.length_take,h1,Nat.add_mul,Nat.one_mul,Nat.min_eq_left (by omega)]
  refine⟨n+1,Nat.le_refl _,hl2,?_,fun x hx=>?_⟩
  ·have c1:=h.fst
   rw[List.map_append,List.map_take,c1,hl2,h1]
   refine cyc_more ps n hp ?_
   rcases Nat.eq_zero_or_pos n with h0|h0
   ·subst h0;rw[Nat.zero_mul] at h1;omega
   ·exact h0
  ·rcases List.mem_append.1 hx with hx|hx
   ·exact h.bd x hx
   ·exact h.bd x (List.mem_of_mem_take hx)
def WS (mx kind:Nat) (ps:List Int):Sh→Prop:=fun s=>match kind,s with
 | 1,.one xs=>WR ps 1 xs
 | 2,.one xs=>∃n,n≤mx∧WR ps n xs
 | 3,.two xs=>xs.length≤4096∧∀x∈xs,closedP ps.length x=x∧∃n,n≤mx∧WR ps n x
 | 4,.two xs=>xs.length≤4096∧∀x∈xs,WR ps 1 x
 | 5,.two xs=>xs.length≤4096∧∀x∈xs,∃n,n≤mx∧WR ps n x
 | 6,.three xs=>xs.length≤4096∧∀x∈xs,x.length≤4096∧∀y∈x,closedP ps.length y=y∧∃n,n≤mx∧WR ps n y
 | _,_=>False
def polyE (ps Q:List Int) (xs:List (List (Int × Int))):List UInt8:=Lib.uvarint xs.length++sqE (lineE ps) (lastQ ps) Q xs
def polyN (ps Q:List Int) (xs:List (List (Int × Int))):List Int:=sqN (lastQ ps) Q xs
def bodyE (kind:Nat) (ps Q:List Int):Sh→List UInt8:=fun s=>match kind,s with
 | 1,.one xs=>rowE ps Q xs
 | 2,.one xs=>lineE ps Q xs
 | 3,.two xs=>polyE ps Q xs
 | 4,.two xs=>Lib.uvarint xs.length++sqE (rowE ps) (lastQ ps) Q xs
 | 5,.two xs=>Lib.uvarint xs.length++sqE (lineE ps) (lastQ ps) Q xs
 | 6,.three xs=>Lib.uvarint xs.length++sqE (polyE ps) (polyN ps) Q xs
 | _,_=>[]
theorem poly_enc{mx:Nat}(hmx:mx≤5000){ps Q:List Int}{xs:List (List (Int × Int))}(hl:xs.length≤4096)(h:∀x∈xs,closedP ps.length x=x∧∃n,n≤mx∧WR ps n x)(hp:0 < ps.length)(hQ:QOk ps Q)(l:List UInt8):
  PolyP mx ps Q (polyE ps Q xs++l) xs (polyN ps Q xs) l∧QOk ps (polyN ps Q xs):=by
 have:=sq_enc (R:=RingP mx ps) (E:=lineE ps) (N:=lastQ ps) (ps:=ps) xs Q l (fun x hx Q l hQ=>by
  obtain⟨hc,n,hn,hw⟩:=h x hx
  have:=line_enc hw hn hmx hp hQ l
  exact⟨⟨x,this.1,hc.symm⟩,this.2⟩) hQ
 refine⟨⟨xs.length,_,hl,?_,this.1⟩,this.2⟩
 unfold polyE
 rw[List.append_assoc]
 exact UV_enc _ (by omega) _
theorem body_enc{mx kind:Nat}(hmx:mx≤5000){ps Q:List Int}{s:Sh}(h:WS mx kind ps s)(hp:0 < ps.length)(hQ:QOk ps Q)(l:List UInt8):BodyP mx kind false ps Q (bodyE kind ps Q s++l) s [] l:=by
 have cnt:∀(n:Nat) (a b:List UInt8),n≤4096→UV (Lib.uvarint n++a++b) n (a++b):=fun n a b hn=>by
  rw[List.append_assoc];exact UV_enc n (by omega) _
 unfold WS at h
 split at h
 ·exact⟨_,(row_enc h hp hQ l).1,rfl⟩
 ·obtain⟨n,hn,hw⟩:=h
  exact⟨_,(line_enc hw hn hmx hp hQ l).1,rfl⟩
 ·exact⟨_,(poly_enc hmx h.1 h.2 hp hQ l).1,rfl⟩
 ·next xs =>
  have:=sq_enc (R:=fun Q l=>RowP ps Q 1 l) (E:=rowE ps) (N:=lastQ ps) (ps:=ps) xs Q l (fun x hx Q l hQ=>row_enc (h.2 x hx) hp hQ l) hQ
  exact⟨_,_,_,_,h.1,cnt _ _ _ h.1,by simp[IdsP],this.1⟩
 ·next xs =>
  have:=sq_enc (R:=LineP mx ps) (E:=lineE ps) (N:=lastQ ps) (ps:=ps) xs Q l (fun x hx Q l hQ=>by
   obtain⟨n,hn,hw⟩:=h.2 x hx
   exact line_enc hw hn hmx hp hQ l) hQ
  exact⟨_,_,_,_,h.1,cnt _ _ _ h.1,by simp[IdsP],this.1⟩
 ·next xs =>
  have:=sq_enc (R:=PolyP mx ps) (E:=polyE ps) (N:=polyN ps) (ps:=ps) xs Q l (fun x hx Q l hQ=>poly_enc hmx (h.2 x hx).1 (h.2 x hx).2 hp hQ l) hQ
  exact⟨_,_,_,_,h.1,cnt _ _ _ h.1,by simp[IdsP],this.1⟩
 ·exact h.elim
theorem BodyP.ws{kind:Nat}{ids:Bool}{ps Q:List Int}{l l':List UInt8}{s:Sh}{is:List Int}(h:BodyP 4096 kind ids ps Q l s is l')(hp:0 < ps.length)(hq:∀x:Int × Int,x.1∈ps → -9007199254740992≤x.2∧x.2≤9007199254740992→eqF (flp x) (flp x)=true):WS 5000 kind ps s:=by
 have hrow:∀{n:Nat}{xs:List (Int × Int)},WR ps n xs→∀x∈xs,eqF (flp x) (flp x)=true:=fun {n xs} hw x hx=>by
  refine hq x ?_ (hw.bd x hx)
  have:x.1∈xs.map (·.1):=List.mem_map_of_mem hx
  rw[hw.fst] at this
  exact cyc_mem _ _ _ this
 have hline:∀{Q Q':List Int}{l l':List UInt8}{xs:List (Int × Int)},LineP 4096 ps Q l xs Q' l'→∃n,n≤4096∧WR ps n xs:=fun h=>by
  obtain⟨n,l0,hn,_,hr⟩:=h
  exact⟨n,hn,hr.wr hp⟩
 have hring:∀{Q Q':List Int}{l l':List UInt8}{xs:List (Int × Int)},RingP 4096 ps Q l xs Q' l'→closedP ps.length xs=xs∧∃n,n≤5000∧WR ps n xs:=fun h=>by
  obtain⟨ys,hl,rfl⟩:=h
  obtain⟨n,hn,hw⟩:=hline hl
  obtain⟨k,hk,hw2⟩:=hw.closed hp
  exact⟨closed_closed _ hp _ (hrow hw),k,by omega,hw2⟩
 obtain⟨Q',h⟩:=h
 unfold BodyQ at h
 unfold WS
 split at h
 ·exact h.1.wr hp
 ·obtain⟨n,hn,hw⟩:=hline h.1
  exact⟨n,by omega,hw⟩
 ·obtain⟨⟨n,l0,hn,_,hs⟩,_⟩:=h
  exact⟨by rw[hs.len];exact hn,hs.all hring⟩
 ·obtain⟨n,l0,l1,hn,_,_,hs⟩:=h
  exact⟨by rw[hs.len];exact hn,hs.all (T:=fun x=>WR ps 1 x) (fun h=>h.wr hp)⟩
 ·obtain⟨n,l0,l1,hn,_,_,hs⟩:=h
  exact⟨by rw[hs.len];exact hn,hs.all (T:=fun x=>∃n,n≤5000∧WR ps n x) (fun h=>by obtain⟨n,hn,hw⟩:=hline h;exact⟨n,by omega,hw⟩)⟩
 ·obtain⟨n,l0,l1,hn,_,_,hs⟩:=h
  exact⟨by rw[hs.len];exact hn,hs.all (T:=fun x=>x.length≤4096∧∀y∈x,closedP ps.length y=y∧∃n,n≤5000∧WR ps n y) (fun h=>by obtain⟨n,l0,hn,_,hs⟩:=h;exact⟨by rw[hs.len];exact hn,hs.all hring⟩)⟩
 ·exact h.elim
def extE (dim pz pm:Nat):List UInt8:=if dim=0 then [] else [UInt8.ofNat ((if dim % 2=1 then 1+4*pz else 0)+(if dim / 2 % 2=1 then 2+32*pm else 0))]
def docE (kind dim xy pz pm:Nat) (ps:List Int) (s:Sh):List UInt8 :=
 UInt8.ofNat (2*xy*16+kind) :: UInt8.ofNat (if dim=0 then 0 else 8) :: (extE dim pz pm++bodyE kind ps (ps.map fun _=>0) s)
theorem doc_enc{kind dim xy pz pm:Nat}{ps:List Int}{s:Sh}(hk:kind < 16)(hd:dim < 4)(hx:xy≤7)(hz:pz≤7)(hm:pm≤7)
  (hps:ps=[(xy:Int),(xy:Int)]++(if dim % 2=1 then [(pz:Int)] else [])++(if dim / 2 % 2=1 then [(pm:Int)] else [])) (h:WS 5000 kind ps s) :
  ∃l0,HeadP (docE kind dim xy pz pm ps s) kind (if dim=0 then 0 else 8) dim xy ps l0∧BodyP 5000 kind false ps (ps.map fun _=>0) l0 s [] []:=by
 have hp:0 < ps.length:=by rw[hps];simp
 have hQ:QOk ps (ps.map fun _=>0):=⟨by simp,fun q hq=>by simp at hq;omega⟩
 have hb:=body_enc (Nat.le_refl _) h hp hQ []
 rw[List.append_nil] at hb
 refine⟨bodyE kind ps (ps.map fun _=>0) s,⟨UInt8.ofNat (2*xy*16+kind),UInt8.ofNat (if dim=0 then 0 else 8),_,bodyE kind ps (ps.map fun _=>0) s,bodyE kind ps (ps.map fun _=>0) s,rfl,?_,?_,?_,?_,?_,?_⟩,hb⟩
 ·simp;omega
 ·have:(UInt8.ofNat (2*xy*16+kind)).toNat / 16=2*xy:=by simp;omega
  rw[this];unfold unz;omega
 ·split<;>simp
 ·unfold ExtP extE
  by_cases h0:dim=0
  ·subst h0
   simp[hps]
  ·rw[if_neg h0,if_neg h0]
   have hc:dim=1∨dim=2∨dim=3:=by omega
   rw[if_pos (by decide)]
   refine⟨_,rfl,?_,?_⟩
   ·rcases hc with rfl|rfl|rfl<;>simp<;>omega
   ·rw[hps]
    unfold precsOf
    have hv:(UInt8.ofNat ((if dim % 2=1 then 1+4*pz else 0)+(if dim / 2 % 2=1 then 2+32*pm else 0))).toNat=(if dim % 2=1 then 1+4*pz else 0)+(if dim / 2 % 2=1 then 2+32*pm else 0):=by
     rcases hc with rfl|rfl|rfl<;>simp<;>omega
    rw[hv]
    rcases hc with rfl|rfl|rfl
    ·skip
     simp only[Nat.reduceMod,Nat.reduceDiv,if_true,if_false,Nat.zero_ne_one]
     rw[if_pos (by omega),if_neg (by omega),show (1+4*pz+0) / 4 % 8=pz by omega]
    ·simp only[Nat.reduceMod,Nat.reduceDiv,if_true,if_false,Nat.zero_ne_one]
     rw[if_neg (by omega),if_pos (by omega),show (0+(2+32*pm)) / 32=pm by omega]
    ·simp only[Nat.reduceMod,Nat.reduceDiv,if_true]
     rw[if_pos (by omega),if_pos (by omega),show (1+4*pz+(2+32*pm)) / 4 % 8=pz by omega,show (1+4*pz+(2+32*pm)) / 32=pm by omega]
 ·unfold SizeP
  by_cases h0:dim=0<;>simp[h0]
 ·unfold BoxP
  by_cases h0:dim=0<;>simp[h0]
def lf (kind dim:Nat) (xs:List (Int × Int)):G:=.mk kind dim (xs.map flp) []
def wh (kind dim:Nat) (ks:List G):G:=.mk kind (if ks.length=0 then 0 else dim:Nat) [] ks
def kidK (kind:Nat):Nat:=if kind=4 then 1 else if kind=6 then 3 else 2
def toG (kind dim:Nat):Sh→G
 | .one xs=>lf kind dim xs
 | .two xs=>wh kind dim (xs.map (lf (kidK kind) dim))
 | .three xs=>wh kind dim (xs.map fun x=>wh 3 dim (x.map (lf 2 dim)))
theorem SqP.unmap{α β:Type}{R:List Int→List UInt8→α→List Int→List UInt8→Prop}{R':List Int→List UInt8→β→List Int→List UInt8→Prop}{f:α→β}(hR:∀{Q Q':List Int}{l l':List UInt8}{y:β},R' Q l y Q' l'→∃x,y=f x∧R Q l x Q' l'){n:Nat}{Q Q':List Int}{l l':List UInt8}{ys:List β}(h:SqP R' n Q l ys Q' l'):∃xs,ys=xs.map f∧SqP R n Q l xs Q' l':=by
 induction h with
 | nil=>exact⟨[],rfl,.nil _ _⟩
 | cons h1 _ ih =>
  obtain⟨x,rfl,hx⟩:=hR h1
  obtain⟨xs,rfl,hxs⟩:=ih
  exact⟨x :: xs,rfl,.cons hx hxs⟩
def KidR (kind:Nat) (ps Q:List Int) (l:List UInt8) (s:Sh) (Q':List Int) (l':List UInt8):Prop :=
 if kind=3 then ∃xs,s=.one xs∧RingP 4096 ps Q l xs Q' l' else BodyQ 4096 (kidK kind) false ps Q l s [] Q' l'
theorem body_of_kids{kind:Nat}(hk:3≤kind∧kind≤6){ids:Bool}{ps Q Q':List Int}{l l0 l1 l':List UInt8}{n:Nat}{is:List Int}{ss:List Sh}(dim:Nat)(hn:n≤4096)(hu:UV l n l0)(hi:kind≠3→IdsP ids n l0 is l1)(hi3:kind=3→is=[]∧l1=l0)(h:SqP (KidR kind ps) n Q l1 ss Q' l'):
  ∃s,BodyQ 4096 kind ids ps Q l s is Q' l'∧wh kind dim (ss.map (toG (kidK kind) dim))=toG kind dim s:=by
 have hc:kind=3∨kind=4∨kind=5∨kind=6:=by omega
 rcases hc with rfl|rfl|rfl|rfl
 ·obtain⟨xs,rfl,hs⟩:=h.unmap (f:=Sh.one) (R:=RingP 4096 ps) (fun h=>by simpa [KidR] using h)
  obtain⟨rfl,rfl⟩:=hi3 rfl
  exact⟨.two xs,⟨⟨n,_,hn,hu,hs⟩,rfl⟩,by simp[toG,List.map_map,Function.comp_def,kidK]⟩
 ·obtain⟨xs,rfl,hs⟩:=h.unmap (f:=Sh.one) (R:=fun Q l=>RowP ps Q 1 l) (fun {Q Q' l l' y} h=>by
   simp only[KidR,kidK,if_neg (show ¬(4:Nat)=3 by decide),if_true] at h
   unfold BodyQ at h
   cases y with
   | one xs=>exact⟨xs,rfl,h.1⟩
   | two xs=>exact h.elim
   | three xs=>exact h.elim)
  exact⟨.two xs,⟨n,_,_,hn,hu,hi (by decide),hs⟩,by simp[toG,List.map_map,Function.comp_def,kidK]⟩
 ·obtain⟨xs,rfl,hs⟩:=h.unmap (f:=Sh.one) (R:=LineP 4096 ps) (fun {Q Q' l l' y} h=>by
   simp only[KidR,kidK,if_neg (show ¬(5:Nat)=3 by decide),if_neg (show ¬(5:Nat)=4 by decide),if_neg (show ¬(5:Nat)=6 by decide)] at h
   unfold BodyQ at h
   cases y with
   | one xs=>exact⟨xs,rfl,h.1⟩
   | two xs=>exact h.elim
   | three xs=>exact h.elim)
  exact⟨.two xs,⟨n,_,_,hn,hu,hi (by decide),hs⟩,by simp[toG,List.map_map,Function.comp_def,kidK]⟩
 ·obtain⟨xs,rfl,hs⟩:=h.unmap (f:=Sh.two) (R:=PolyP 4096 ps) (fun {Q Q' l l' y} h=>by
   simp only[KidR,kidK,if_neg (show ¬(6:Nat)=3 by decide),if_neg (show ¬(6:Nat)=4 by decide),if_true] at h
   unfold BodyQ at h
   cases y with
   | one xs=>exact h.elim
   | two xs=>exact⟨xs,rfl,h.1⟩
   | three xs=>exact h.elim)
  exact⟨.three xs,⟨n,_,_,hn,hu,hi (by decide),hs⟩,by simp[toG,List.map_map,Function.comp_def,kidK]⟩
open Go.RowKit
def closed (m:Nat) (xs:List Nat):List Nat:=if xs.length < 2*m∨eqFs (xs.take m) (xs.drop (xs.length - m))=true then xs else xs++xs.take m
theorem closed_map(m:Nat)(ys:List (Int × Int)):closed m (ys.map flp)=(closedP m ys).map flp:=by
 unfold closed closedP
 rw[List.length_map,List.map_take,List.map_drop]
 split
 ·rfl
 ·rw[List.map_append,List.map_take]
def RingPost (B r lb:Nat) (l:List UInt8) (any bad unt:Bool) (w:World) (ps Q0:List Int) (e:Ending) (w':World):Prop :=
 ∃v,e=.returned v∧Hid (∃Q l1 bad1 unt1,St (RL r lb) (· < B) r l any bad unt w l1 bad1 unt1 w'∧RowI lb w' Q∧Q.length=ps.length∧(∀q∈Q,-9007199254740992≤q∧q≤9007199254740992) ∧
  ∃xs:List Nat,xs.length≤30000∧NumsAt (fun b=>w.heap.size≤b) w' v xs∧(bad1=false→unt1=false→(∀p∈ps,0≤p)→∃ys,RingP 4096 ps Q0 l ys Q l1∧xs=ys.map flp))
theorem own_part{w:World}{B g n cap:Nat}{xs:List Nat}(h:w.ownsRow B 40 1 (.slice (some ⟨g,0,none⟩) n cap) n (xs.map flv))(o k c:Nat)(hok:o+k≤n)(hc:k≤c):NumsAt (fun b=>b=g) w (.slice (some ⟨g,o,none⟩) k c) ((xs.drop o).take k):=by
 have hl:xs.length=n:=by simpa using h.1
 have hlen:((xs.drop o).take k).length=k:=by rw[List.length_take,List.length_drop];omega
 refine⟨by simp,some ⟨g,o,none⟩,c,by rw[hlen],by rw[hlen];exact hc,fun e=>by simp at e,fun _=>⟨g,o,rfl,rfl,fun j u hu=>?_⟩⟩
 have hj:j < k:=by
  have:=(zL hu).1
  rw[List.length_map,hlen] at this
  exact this
 have:=h.cellAt (o+j) (by omega)
 rw[this]
 rw[List.getElem?_map] at hu ⊢
 rw[←hu,List.getElem?_take_of_lt hj,List.getElem?_drop]
theorem own_cap{w:World}{B n:Nat}{v:Value}{cs:List Value}(h:w.ownsRow B 40 1 v n cs)(hn:0 < n):∃g cap,v=.slice (some ⟨g,0,none⟩) n cap∧B≤g∧n≤cap:=by
 rcases h.2 with ⟨_,h0⟩|⟨g,cap,cur,h1,h2,_,h4,_⟩
 ·omega
 ·exact⟨g,cap,h1,h2,h4⟩
theorem quiet_add_same{P:Program}{f:FuncId}{args:Array Value}{w:World}{a n:Nat}{v:Value}
  (h:Calls P f args (w.drewN (a+n)) fun e w'=>e=.returned v∧w'=w.drewN (a+n)) :
  Calls P f args (w.drewN (a+n)) fun e w''=>e=.returned v∧∃m,w''=w.drewN (a+m) :=
 h.mono fun _ _ ⟨he,hm⟩=>⟨he,n,hm⟩
theorem ring114(B r lb:Nat)(l:List UInt8)(any bad unt:Bool)(w:World)(kd dm em ix bx:Value)(pb po:Nat)(pc:Nat)(ps Q0:List Int)(hB:B≤w.heap.size)(hrB:B≤r)(hlB:B≤lb)(hne:r≠lb)
  (hR:RIn (· < B) r w l any bad unt) (hL:RowI lb w Q0) (hQ:Q0.length=ps.length) (hq:∀q∈Q0,-9007199254740992≤q∧q≤9007199254740992) (hps:ps.length≤4) (hps2:2≤ps.length) (hpb:∀p∈ps,-8≤p∧p≤7)
  (hpv:PrecsAt (fun b=>¬RL r lb b) w (.slice (some ⟨pb,po,none⟩) ps.length pc) ps) :
  Calls Tryz.prog 114 #[.pointer (some ⟨r,0,none⟩),.agg #[kd,dm,.slice (some ⟨pb,po,none⟩) ps.length pc,em,ix,bx],.slice (some ⟨lb,0,none⟩) ps.length ps.length] w (RingPost B r lb l any bad unt w ps Q0):=by
 obtain⟨w0,hw0⟩:∃w0,w0=w.alloc (.cells #[kd,dm,.slice (some ⟨pb,po,none⟩) ps.length pc,em,ix,bx] 89):=⟨_,rfl⟩
 have hf0:ZF w w0:=by rw[hw0];exact (Fr.refl _ w).alloc _
 have hR0:RIn (· < B) r w0 l any bad unt:=hR.fr hf0 (by simp) (by simp) hB
 have hL0:RowI lb w0 Q0:=hL.fr hf0 (by simp)
 have hbx:w0.heap[w.heap.size]?=some (.cells #[kd,dm,.slice (some ⟨pb,po,none⟩) ps.length pc,em,ix,bx] 89 (0,0)):=by rw[hw0];exact zN _ _
 have hrw:=hR.lt
 have C113:Hid (∀w',ZF w0 w'→Calls Tryz.prog 113 #[.pointer (some ⟨r,0,none⟩)] w' (CountPost (· < B) r l any bad unt w')):=fun w' h=>count113 _ r l any bad unt _ (hR0.fr h (by simp) (by simp) (by have:=hf0.size;omega))
 obtain⟨m,hm⟩:∃m,m=ps.length:=⟨_,rfl⟩
 have HM:=zH hm
 have hm4:m≤4:=by omega
 have hm2:2≤m:=by omega
 rw[←hm] at hw0 hbx ⊢
 have cb:∀i v,(#[kd,dm,.slice (some ⟨pb,po,none⟩) m pc,em,ix,bx]:Array Value)[i]?=some v→w0.cell? ⟨w.heap.size,i,none⟩=some v:=fun i v h=>by rw[zC hbx];exact h
 have b0:=cb 0 _ rfl
 have b1:=cb 1 _ rfl
 have b2:=cb 2 _ rfl
 have b3:=cb 3 _ rfl
 have b4:=cb 4 _ rfl
 have b5:=cb 5 _ rfl
 have HB6:Hid (∀(n:Nat) l1 bad1 unt1 w1 w',ZF w0 w'→Hid (n≤4096∧St (Eq r) (· < B) r l any bad unt w' l1 bad1 unt1 w1∧(bad1=false→unt1=false→UV l n l1)) →
   (w1.cell? ⟨w.heap.size,0,none⟩=some kd∧w1.cell? ⟨w.heap.size,1,none⟩=some dm)∧(w1.cell? ⟨w.heap.size,2,none⟩=some (.slice (some ⟨pb,po,none⟩) m pc)∧w1.cell? ⟨w.heap.size,3,none⟩=some em)∧(w1.cell? ⟨w.heap.size,4,none⟩=some ix∧w1.cell? ⟨w.heap.size,5,none⟩=some bx)):=by
  intro n l1 bad1 unt1 w1 w' hf h
  have hk:∀i v,w0.cell? ⟨w.heap.size,i,none⟩=some v→w1.cell? ⟨w.heap.size,i,none⟩=some v:=fun i v hv=>h.out.2.1.fr.cell (hf.cell hv (by simp)) (by show ¬r=w.heap.size;omega)
  exact⟨⟨hk _ _ b0,hk _ _ b1⟩,⟨hk _ _ b2,hk _ _ b3⟩,⟨hk _ _ b4,hk _ _ b5⟩⟩
 have hpv0:PrecsAt (fun b=>¬RL r lb b) w0 (.slice (some ⟨pb,po,none⟩) ps.length pc) ps:=CellsAt.kept hpv (fun b _ h=>hf0.block b h (by simp))
 have C112:Hid (∀(n:Nat) l1 bad1 unt1 w1 w',ZF w0 w'→Hid (n≤4096∧St (Eq r) (· < B) r l any bad unt w' l1 bad1 unt1 w1∧(bad1=false→unt1=false→UV l n l1)) →
   Calls Tryz.prog 112 #[.pointer (some ⟨r,0,none⟩),.int .i64 n,.agg #[kd,dm,.slice (some ⟨pb,po,none⟩) m pc,em,ix,bx],.slice (some ⟨lb,0,none⟩) m m] w1 (PlPost B r lb l1 any bad1 unt1 w1 ps Q0 n)):=by
  intro n l1 bad1 unt1 w1 w' hf h
  have hf1:Fr (Eq r) w0 w1:=(hf.weak (by simp)).trans h.out.2.1.fr
  have hsz:=hf0.size
  have hsz1:=hf1.size
  rw[HM.out]
  exact places112 B r lb l1 any bad1 unt1 w1 n h.out.1 kd dm em ix bx pb po pc ps Q0 (by omega) hlB hne h.out.2.1.inn (hL0.fr hf1 hne) hQ hq hps hps2 hpb (CellsAt.kept hpv0 (fun b hb h=>hf1.block b h (fun e=>hb (.inl e.symm))))
 have HBX:=zH hbx
 have HW0:=zH hw0
 clear cb hbx hm hw0
 go_enter Tryz.func114,Tryz.ntmps114
 go_upto_region 1 with fail
 rw[←HW0.out]
 go_upto_region 2 with fail
 go_cut [8] from 13 to 18 (fun nv wr=>∃(n:Nat) (l1:List UInt8) (bad1 unt1:Bool) (w1 w':World),ZF w0 w'∧Hid (n≤4096∧St (Eq r) (· < B) r l any bad unt w' l1 bad1 unt1 w1∧(bad1=false→unt1=false→UV l n l1))∧PlPost B r lb l1 any bad1 unt1 w1 ps Q0 n (.returned nv) wr)
 case first =>
  go_region_with (first|(go_at_call 113;refine (C113.out _ ((Fr.refl _ _).drew)).mono ?_;rintro e w1 ⟨n,l1,bad1,unt1,rfl,h1⟩;obtain⟨⟨g0,g1⟩,⟨g2,g3⟩,⟨g4,g5⟩⟩:=HB6.out _ _ _ _ _ _ ((Fr.refl _ _).drew) h1)|(go_at_call 112;refine (C112.out _ _ _ _ _ _ ((Fr.refl _ _).drew) h1).mono ?_;rintro e w2 ⟨v,rfl,h2⟩))
  all_goals (go_wp2_with fail;go_meet;exact⟨n,l1,bad1,unt1,w1,_,(Fr.refl _ _).drew,h1,⟨v,rfl,h2⟩⟩)
 case rest =>
  obtain⟨n,l1,bad1,unt1,w1,w',hf',h1,v,hv,h2⟩:=hcut
  obtain rfl:u8=v:=by injection hv
  obtain⟨hn,hs1,huv⟩:=h1.out
  obtain⟨t,Q,l2,bad2,unt2,hst,hrow,hQl,hqb,ht,xs,hx1,hown,hgood⟩:=h2.out
  have hw01:Fr (RL r lb) w w1:=((hf0.weak (by simp)).trans (hf'.weak (by simp))).trans (hs1.fr.weak (fun k e=>.inl e.symm))
  have ST:Hid (St (RL r lb) (· < B) r l any bad unt w l2 bad2 unt2 wc):=⟨hst.inn,hw01.trans hst.fr,fun e=>hst.bad (hs1.bad e),fun e=>hst.unt (hs1.unt e),Nat.le_trans hst.len hs1.len⟩
  have htb:t≤16384:=Nat.le_trans ht (Nat.mul_le_mul hn hps)
  have HG:Hid (bad2=false→unt2=false→(∀p∈ps,0≤p)→∃ys,LineP 4096 ps Q0 l ys Q l2∧xs=ys.map flp):=by
   intro e1 e2 hp
   have b1':bad1=false:=by
    cases hb:bad1 with
    | false=>rfl
    | true=>rw[hst.bad hb] at e1;cases e1
   have u1':unt1=false:=by
    cases hb:unt1 with
    | false=>rfl
    | true=>rw[hst.unt hb] at e2;cases e2
   obtain⟨ys,d1,d2⟩:=hgood e1 e2
   exact⟨ys,⟨n,l1,hn,huv b1' u1',d1⟩,d2 hp⟩
  have hwsz:w.heap.size≤w1.heap.size:=hw01.size
  have RET:Hid ((bad2=false→unt2=false→closed m xs=xs)→∀k,RingPost B r lb l any bad unt w ps Q0 (.returned u8) (wc.drewN k)):=by
   intro hcl k
   refine⟨u8,rfl,Q,l2,bad2,unt2,ST.out.drewN k,hrow,hQl,hqb,xs,by omega,?_,fun e1 e2 hp=>?_⟩
   ·have:=(CellsAt.of_own hown).mono (Q:=fun b=>w.heap.size≤b) (by decide) (fun b hb _=>by
     have:=hown.lt b hb.symm
     omega)
    have h3:NumsAt (fun b=>w.heap.size≤b) wc u8 xs:=by
     unfold NumsAt
     rw[hx1]
     exact this
    exact CellsAt.kept h3 (fun _ _ _=>rfl)
   ·obtain⟨ys,d1,d2⟩:=HG.out e1 e2 hp
    refine⟨closedP m ys,⟨ys,d1,by rw[HM.out]⟩,?_⟩
    rw[←closed_map,←d2,hcl e1 e2]
  have hsh:∃a cap,u8=.slice a t cap:=by
   rcases hown.2 with ⟨h1,h2⟩|⟨g,cap,cur,h1,_⟩
   ·exact⟨none,0,by rw[h1,h2]⟩
   ·exact⟨_,_,h1⟩
  have HOWN:=zH hown
  have HB:=zH hwsz
  have HST:=zH hst
  have k2:=ST.out.inn.c2
  have k3:=ST.out.inn.c3
  have kf:=ST.out.inn.fz 3
  have HX1:=zH hx1
  have HT:=zH ht
  have HQB:=zH hqb
  have HLW:Hid (lb < w.heap.size):=(zG hL).1
  clear HB6 C112 C113 b0 b1 b2 b3 b4 b5 hn hs1 huv hst hgood hown hw01 h1 h2 hf' hwsz hx1 ht hpv hpv0 hq hQ hL hL0 hR hR0 hf0 hqb
  obtain⟨a,cap,hsh⟩:=hsh
  by_cases hc1:t < 2*m
  ·have hcl:bad2=false→unt2=false→closed m xs=xs:=fun _ _=>by unfold closed;rw[if_pos (.inl (by rw[HX1.out];exact hc1))]
   have hret:=zH (RET.out hcl)
   subst hsh
   have hd:decide ((t:Int) < 2*(m:Int))=true:=by simp;omega
   clear hcl RET HG HOWN
   go_upto_region 4 with fail
   go_quiet (fail)
   go_wp2_with fail
   go_ret
   exact hret.out _
  ·obtain⟨g,cap',hg,hgB,htc⟩:=own_cap HOWN.out (by omega)
   rw[hsh] at hg
   injection hg with hg1 _ hg2
   subst hg1 hg2
   subst hsh
   have hd:decide ((t:Int) < 2*(m:Int))=false:=by simp;omega
   have htm:2*m≤t:=by omega
   cases hb2:bad2 with
   | true =>
    have hret:=zH (RET.out (fun e=>by rw[hb2] at e;cases e))
    rw[hb2] at k2
    clear RET HG HOWN hb2
    go_upto_region 4 with fail
    go_quiet (fail)
    go_wp2_with fail
    go_ret
    exact hret.out _
   | false =>
    rw[hb2] at k2
    obtain⟨d,hdt⟩:∃d,d=t - m:=⟨_,rfl⟩
    have hdr:(xs.drop d).take m=xs.drop d:=List.take_of_length_le (by rw[List.length_drop,HX1.out];omega)
    obtain⟨q,hq⟩:∃q,q=eqFs (xs.take m) (xs.drop (xs.length - m)):=⟨_,rfl⟩
    have C1:Hid (∀w',w'.heap=wc.heap→Calls Tryz.prog 186 #[.slice (some ⟨g,0,none⟩) m cap,.slice (some ⟨g,d,none⟩) m (cap - d)] w' fun e w2=>e=.returned (.bool q)∧w2=w'):=by
     intro w' hw'
     refine (eq186 _ _ _ _ _ _ w' (CellsAt.kept (own_part HOWN.out 0 m cap (by omega) (by omega)) (fun b _ _=>by rw[hw'])) (CellsAt.kept (own_part HOWN.out d m (cap - d) (by omega) (by omega)) (fun b _ _=>by rw[hw'])) (by simp;omega) (by simp;omega)).mono ?_
     rintro e w2 ⟨rfl,rfl⟩
     rw[hdr,List.drop_zero,hq,HX1.out,hdt]
     exact⟨rfl,rfl⟩
    have HQ:=zH hq
    have e1:(t:Int) - (m:Int)=(d:Int):=by omega
    have e2:t - d=m:=by omega
    have e3:d≤t:=by omega
    have e4:d+2≤cap:=by omega
    have e5:2≤cap:=by omega
    have e6:d+2 - d=2:=by omega
    have e7:d≤16384:=by omega
    have HDT:=zH hdt
    clear hdt
    cases q with
    | true =>
     have hret:=zH (RET.out (fun _ _=>by unfold closed;rw[if_pos (.inr HQ.out.symm)]))
     clear RET HG HOWN hb2 hq hdr
     go_upto_region 4 with fail
     go_quiet (first|(go_at_call 186;exact Calls.quiet_of_same (C1.out _ rfl)))
     go_wp2_with fail
     go_ret
     exact hret.out _
    | false =>
     have C2:Hid (∃z:Bool,∀w',w'.heap=wc.heap→Calls Tryz.prog 186 #[.slice (some ⟨g,0,none⟩) 2 cap,.slice (some ⟨g,d,none⟩) 2 (cap - d)] w' fun e w2=>e=.returned (.bool z)∧w2=w'):=by
      refine⟨eqFs ((xs.drop 0).take 2) ((xs.drop d).take 2),fun w' hw'=>(eq186 _ _ _ _ _ _ w' (CellsAt.kept (own_part HOWN.out 0 2 cap (by omega) (by omega)) (fun b _ _=>by rw[hw'])) (CellsAt.kept (own_part HOWN.out d 2 (cap - d) (by omega) (by omega)) (fun b _ _=>by rw[hw'])) (by simp;omega) (by simp;omega)).mono ?_⟩
      rintro e w2 ⟨rfl,rfl⟩
      exact⟨rfl,rfl⟩
     obtain⟨z,C2⟩:=C2.out
     have C2:=zH C2
     have hcl:closed m xs=xs++xs.take m:=by
      unfold closed
      rw[if_neg]
      rintro (h|h)
      ·rw[HX1.out] at h;omega
      ·rw[←HQ.out] at h;cases h
     have APP:Hid (∀(unt':Bool) (w3 w4:World) (v':Value),St (RL r lb) (· < B) r l any bad unt w l2 bad2 unt' w3→RowI lb w3 Q→(unt'=false→unt2=false)→w3.grownBy w4 (some g)→w4.ownsRow w1.heap.size 40 1 v' (t+m) (xs.map flv++(xs.take m).map flv)→RingPost B r lb l any bad unt w ps Q0 (.returned v') w4):=by
      intro unt' w3 w4 v' s3 r3 hu g4 o4
      have hlw:lb < w.heap.size:=HLW.out
      have hf4:Fr (fun k=>k=g) w3 w4:=(Fr.refl _ w3).grown g4 (fun k hk=>.inr (by injection hk with hk;exact hk.symm))
      have hgw:w.heap.size≤g:=Nat.le_trans HB.out hgB
      have hBw3:B≤w3.heap.size:=by have:=s3.fr.size;omega
      refine⟨v',rfl,Q,l2,bad2,unt',⟨s3.inn.fr hf4 (by omega) (fun k hk=>by omega) hBw3,s3.fr.transNew hf4 (fun b hb=>.inl (by omega)),s3.bad,s3.unt,s3.len⟩,r3.fr hf4 (by omega),hQl,HQB.out,xs++xs.take m,?_,?_,fun e1 e2 hp=>?_⟩
      ·have:=HT.out
       rw[List.length_append,List.length_take,HX1.out]
       omega
      ·have h5:=(CellsAt.of_own o4).mono (Q:=fun b=>w.heap.size≤b) (by decide) (fun b hb _=>by
        have:=(o4.lt b hb.symm).1
        have:=HB.out
        omega)
       have hl5:(xs++xs.take m).length=t+m:=by
        rw[List.length_append,List.length_take,HX1.out]
        omega
       unfold NumsAt
       rw[hl5,List.map_append]
       exact h5
      ·obtain⟨ys,d1,d2⟩:=HG.out e1 (hu e2) hp
       refine⟨closedP m ys,⟨ys,d1,by rw[HM.out]⟩,?_⟩
       rw[←closed_map,←d2,hcl]
     have HROW:=zH hrow
     have hnews:∀(w3:World),w3.heap[g]?=wc.heap[g]?→∀j u,((xs.take m).map flv)[j]?=some u→w3.cell? ((⟨g,0,none⟩:Addr).add j)=some u:=by
      intro w3 hw3 j u hu
      have h9:=own_part HOWN.out 0 m cap (by omega) (by omega)
      obtain⟨_,a9,c9,e9,_,_,k9⟩:=h9
      obtain⟨b9,o9,e10,_,k10⟩:=k9 (by rw[List.drop_zero,List.length_take,HX1.out];omega)
      injection e9 with e9
      rw[←e9] at e10
      injection e10 with e10
      injection e10 with e11 e12
      subst e11 e12
      have:=k10 j u (by rw[List.drop_zero];exact hu)
      have e9:(⟨g,0,none⟩:Addr).add j=⟨g,0+j,none⟩:=by cases j<;>simp[Addr.add]
      rw[e9,World.cell?_of_block (by exact hw3)]
      exact this
     have HNW:=zH hnews
     have hrg:r≠g:=by have:=HB.out;omega
     have sa:∀(k:Nat) (x:Value) (b:Nat),b≠r→((wc.drewN k).setCell ⟨r,3,none⟩ x).heap[b]?=wc.heap[b]?:=fun k x b hb=>Below.heap_setCell _ _ _ _ hb
     have OWN_A:Hid (∀(k:Nat) (x:Value),((wc.drewN k).setCell ⟨r,3,none⟩ x).ownsRow w1.heap.size 40 1 (.slice (some ⟨g,0,none⟩) t cap) t (xs.map flv)):=fun k x=>ownsRow_keep HOWN.out (fun b hb _=>sa k x b (by have:=HB.out;omega))
     have OWN_B:Hid (∀(k:Nat),(wc.drewN k).ownsRow w1.heap.size 40 1 (.slice (some ⟨g,0,none⟩) t cap) t (xs.map flv)):=fun k=>ownsRow_keep HOWN.out (fun _ _ _=>rfl)
     have NW_A:Hid (∀(k:Nat) (x:Value) (j:Nat) (u:Value),((xs.take m).map flv)[j]?=some u→((wc.drewN k).setCell ⟨r,3,none⟩ x).cell? ((⟨g,0,none⟩:Addr).add j)=some u):=fun k x=>HNW.out _ (sa k x g (Ne.symm hrg))
     have NW_B:Hid (∀(k:Nat) (j:Nat) (u:Value),((xs.take m).map flv)[j]?=some u→(wc.drewN k).cell? ((⟨g,0,none⟩:Addr).add j)=some u):=fun k=>HNW.out _ rfl
     have hK5:w1.heap.size≤wc.heap.size:=HST.out.fr.size
     have K5_A:Hid (∀(k:Nat) (x:Value),w1.heap.size≤((wc.drewN k).setCell ⟨r,3,none⟩ x).heap.size):=fun k x=>Nat.le_trans hK5 (by simp[World.setCell])
     have K5_B:Hid (∀(k:Nat),w1.heap.size≤(wc.drewN k).heap.size):=fun k=>hK5
     have ST_A:Hid (∀k:Nat,St (RL r lb) (· < B) r l any bad unt w l2 bad2 true ((wc.drewN k).setCell ⟨r,3,none⟩ (.bool true))∧RowI lb ((wc.drewN k).setCell ⟨r,3,none⟩ (.bool true)) Q):=fun k=>⟨(ST.out.drewN k).setUnt true (fun _=>rfl) (.inl rfl),by unfold RowI;rw[sa k _ lb (Ne.symm hne)];exact HROW.out⟩
     have ST_B:Hid (∀k:Nat,St (RL r lb) (· < B) r l any bad unt w l2 bad2 unt2 (wc.drewN k)∧RowI lb (wc.drewN k) Q):=fun k=>⟨ST.out.drewN k,HROW.out⟩
     have hlm:((xs.take m).map flv).length=m*1:=by
      rw[List.length_map,List.length_take,HX1.out]
      omega
     have HLM:=zH hlm
     have K3:Hid (t+m≤maxLen):=by show _≤_;have:=HT.out;unfold maxLen;omega
     have K4:Hid ((t+m)*8≤140737488355328):=by show _≤_;have:=HT.out;omega
     obtain⟨i0,hi0,hz0,hz1,hz2⟩:=info_parts info40
     have H1C:Hid (∀u∈(xs.take m).map flv,u.oneCell'=true):=by
      intro u hu
      obtain⟨x,_,rfl⟩:=List.mem_map.1 hu
      rfl
     have f1:(2:Int)≤(cap:Int):=by omega
     have f2:(d:Int)+2≤(cap:Int):=by omega
     have f3:((d:Int)+2).toNat=d+2:=by omega
     have f4:IntKind.i64.wrap ((d:Int)+2)=(d:Int)+2:=IntWalk.i64_in _ ⟨by omega,by omega⟩
     have f5:(0:Int)≤(d:Int)+2:=by omega
     have HCL:=zH hcl
     clear RET hq hdr hcl hnews hlm hK5 sa hrow
     go_upto_region 4 with fail
     go_quiet (first|(go_at_call 186;exact Calls.quiet_of_same (C1.out _ rfl)))
     go_upto_region 6 with fail
     go_quiet ((go_at_call 186;exact quiet_add_same (C2.out _ rfl)))
     clear f1 f2 f3 f4 f5 e1 e2
     cases z with
     | true =>
      go_wp2_with (at_builtin;refine wpList_append_own _ rfl _ _ 24 rfl w1.heap.size 40 i0 (.float .f64 0) 1 8 Tryz.underlying24 hi0 hz0 hz1 hz2 rfl (by decide) _ t (xs.map flv) rfl (OWN_A.out _ _) ⟨g,0,none⟩ m cap ((xs.take m).map flv) rfl HLM.out (NW_A.out _ _) H1C.out K3.out K4.out (K5_A.out _ _) ?_;intro v' w5 hown1 hgrow1 _;have HO1:=zH hown1;clear hown1;have HG1:=zH hgrow1;clear hgrow1;refine Hid.out ?_)
      refine zH ?_
      have hfin:=zH (APP.out true _ _ _ (ST_A.out _).1 (ST_A.out _).2 (fun e=>by cases e) HG1.out HO1.out)
      clear APP HG1 HO1 ST_A ST_B NW_A NW_B OWN_A OWN_B
      go_wp2_with fail
      go_ret
      exact hfin.out
     | false =>
      go_wp2_with (at_builtin;refine wpList_append_own _ rfl _ _ 24 rfl w1.heap.size 40 i0 (.float .f64 0) 1 8 Tryz.underlying24 hi0 hz0 hz1 hz2 rfl (by decide) _ t (xs.map flv) rfl (OWN_B.out _) ⟨g,0,none⟩ m cap ((xs.take m).map flv) rfl HLM.out (NW_B.out _) H1C.out K3.out K4.out (K5_B.out _) ?_;intro v' w5 hown1 hgrow1 _;have HO1:=zH hown1;clear hown1;have HG1:=zH hgrow1;clear hgrow1;refine Hid.out ?_)
      refine zH ?_
      have hfin:=zH (APP.out unt2 _ _ _ (ST_B.out _).1 (ST_B.out _).2 (fun e=>e) HG1.out HO1.out)
      clear APP HG1 HO1 ST_A ST_B NW_A NW_B OWN_A OWN_B
      go_wp2_with fail
      go_ret
      exact hfin.out
end Go.Proofs.YtnjjgbcmjnfijaaGreatDoor
